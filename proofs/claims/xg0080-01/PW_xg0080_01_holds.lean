import PyProof.Rows.All
import Wide.All
import OpenK.AllK
import Wide.FinOn
import PyProof.FactsAll.object
import PySem.Challenge.RW_xg0080_01
set_option Elab.async false
section
open PySem PySem.W PyProof.Rows
set_option Elab.async false
set_option maxRecDepth 100000
set_option maxHeartbeats 8000000
namespace Mine
open_top hd for PySem.Challenge.rw_xg0080_01
end Mine
end

section
open PySem PySem.W PyProof.Rows PySem.Calls
set_option Elab.async false
set_option maxRecDepth 100000
namespace Mine

section
variable {prog : Program} {w : World} {A₀ A : Around} {s : Shared} {base h₀ : Heap} {outer : List Env} {L : Addr} {m : Str → Option Value} {env : Env}
  {R : Result → Shared → Prop} {name qual : Str} {params : Arguments} {body : List Stmt} {scope : Scope} {cl : List (Str × Addr)} {dV kV doc pm cdv ct : Value} {an : Option Addr} {fo : Obj} {f : Addr} {args : Args} {binds : List (Str × Value)}

/-- what a callee sees: all of the caller's heap but W is kept -/
theorem ground_W (W : List Addr) (B : Below A₀ base outer h₀) (F : Fr h₀ L s.heap m) (hW : ∀ b ∈ W, h₀.get? b = none ∧ b ≠ L) (hA : A.frames = some (env :: outer)) (hf : env.frame = some L) (hke : env.scope.kind = .function) :
    Below A base (env :: outer) (hideAll s.heap W) ∧ h₀.StaysIn (hideAll s.heap W) := by
  have nm : ∀ b o, h₀.get? b = some o → b ∉ W := fun b o e q => by rw [(hW b q).1] at e; cases e
  have st : h₀.StaysIn (hideAll s.heap W) := fun b o e => hideAll_get _ (F.keep b o e) (nm b o e)
  obtain ⟨oL, es, ep, hL, hLd, hLk, hLf⟩ := F.ns
  have nL : L ∉ W := fun q => (hW L q).2 rfl
  have B₁ := pushX B F hf hke
  refine ⟨⟨hA, fun b o e => st b o (B.stays b o e), funFrames_hideAll B₁.frames fun env' he b hb hf' => ?_⟩, st⟩
  cases he with
  | head => exact nL ((Option.some.inj (hf.symm.trans hf') : L = b) ▸ hb)
  | tail _ he =>
    obtain ⟨L₁, o₁, hf₁, ho₁⟩ := funFrames_in B.frames env' he
    rw [hf₁] at hf'
    exact nm L₁ o₁ ho₁ ((Option.some.inj hf' : L₁ = b) ▸ hb)

theorem call_W (W : List Addr) (B : Below A₀ base outer h₀) (F : Fr h₀ L s.heap m) (hW : ∀ b ∈ W, h₀.get? b = none ∧ b ≠ L) (hlim : h₀.NoLimit) (hA : A.frames = some (env :: outer)) (hf : env.frame = some L) (hke : env.scope.kind = .function)
    (ho : s.heap.get? f = some fo) (hd : fo.data = .func (fnX name qual params body scope cl dV kV doc pm an cdv ct)) (hcd : s.heap.CodeRec cdv qual) (hroom : A.depth < recursionLimit)
    (hbind : BindsTo s (fnX name qual params body scope cl dV kV doc pm an cdv ct) args binds) (hloc : ∀ y ∈ binds, scope.names.lookup y.1 = some .local)
    (h : ∀ g L' h₁, g = hideAll s.heap W → L' = s.heap.objs.size → h₀.StaysIn g → Fr g L' h₁ (fun y => binds.reverse.lookup y) → (∀ b o, s.heap.get? b = some o → h₁.get? b = some o) → Below A base (env :: outer) g →
      wpAny (model prog w) (A.deeper (envX qual scope L' f cdv cl)) (execs body (envX qual scope L' f cdv cl))
        (fun fl s' => R (.ok (.ret (match fl with | .ret v => v | _ => .none))) s')
        (fun e s' => wpAny (model prog w) (A.deeper (envX qual scope L' f cdv cl)) (leaving (envX qual scope L' f cdv cl) e) (fun _ s'' => R (.error e) s'') (fun e' s'' => R (.error e') s'') s')
        { s with heap := h₁, toks := s.toks + binds.length })
    (hcell : ∀ x ∈ scope.names, x.2 ≠ .cell) (hco : scope.isCoroutine = false := by rfl) (hgen : scope.isGenerator = false := by rfl) (hk : scope.kind = .function := by rfl) : codeAny (model prog w) A (.call (.ref f) args) R s := by
  obtain ⟨BG, st⟩ := ground_W (A := A) W B F hW hA hf hke
  refine codeAny_call_def (fd := fnX name qual params body scope cl dV kV doc pm an cdv ct) (body := body) (binds := binds) hroom ho hd (hlim.keeps F.keep) hcd rfl hbind hcell hloc (fun h₁ hns hk₁ => ?_) hco hgen hk
  exact h _ s.heap.objs.size h₁ rfl rfl st ⟨hns, fun b o e => hk₁ b o (of_hideAll _ e), Nat.le_of_eq (hideAll_size _ _)⟩ hk₁ BG

theorem call_WC (W : List Addr) (B : Below A₀ base outer h₀) (F : Fr h₀ L s.heap m) (hW : ∀ b ∈ W, h₀.get? b = none ∧ b ≠ L) (hlim : h₀.NoLimit) (hA : A.frames = some (env :: outer)) (hf : env.frame = some L) (hke : env.scope.kind = .function)
    (ho : s.heap.get? f = some fo) (hd : fo.data = .func (fnX name qual params body scope [] dV kV doc pm an cdv ct)) (hcd : s.heap.CodeRec cdv qual) (hroom : A.depth < recursionLimit)
    (hbind : BindsTo s (fnX name qual params body scope [] dV kV doc pm an cdv ct) args binds)
    (hkind : ∀ n, ∀ x ∈ binds, scope.names.lookup x.1 = some .local ∨ (scope.names.lookup x.1 = some .cell ∧ ((cellsFrom n scope.names []).lookup x.1).isSome = true))
    (hnd : ((cellsFrom 0 scope.names []).map (·.1)).Nodup)
    (h : ∀ g L' h₁ tk cells, g = hideAll s.heap W → L' = s.heap.objs.size → h₀.StaysIn g → Fr g L' h₁ (bindL (envOfC qual scope L' f cdv).kindOf binds fun _ => none) → News g L' h₁ cells →
      CellsAre (bindC (envOfC qual scope L' f cdv).kindOf binds fun _ => none) (cellsFrom (L' + 1) scope.names []) cells → (∀ b o, s.heap.get? b = some o → h₁.get? b = some o) → Below A base (env :: outer) g →
      wpAny (model prog w) (A.deeper (envOfC qual scope L' f cdv)) (execs body (envOfC qual scope L' f cdv))
        (fun fl s' => R (.ok (.ret (match fl with | .ret v => v | _ => .none))) s')
        (fun e s' => wpAny (model prog w) (A.deeper (envOfC qual scope L' f cdv)) (leaving (envOfC qual scope L' f cdv) e) (fun _ s'' => R (.error e) s'') (fun e' s'' => R (.error e') s'') s')
        { s with heap := h₁, toks := tk })
    (hco : scope.isCoroutine = false := by rfl) (hgen : scope.isGenerator = false := by rfl) (hk : scope.kind = .function := by rfl) : codeAny (model prog w) A (.call (.ref f) args) R s := by
  obtain ⟨BG, st⟩ := ground_W (A := A) W B F hW hA hf hke
  refine codeAny_call_function hroom ho hd hco hgen rfl hcd (hbind _ _ _ _ ?_)
  refine wpAny_newFunctionEnv_cells hk (hkind _) fun env' he s' x => ?_
  subst he
  refine ⟨(hlim.keeps F.keep).keeps x.toInCall.keep, codeAny_func ?_⟩
  obtain ⟨h₁, tk, rfl, _⟩ := x.done
  have hk₁ := x.toInCall.keep
  obtain ⟨cells, NC, Y⟩ := Cl.news (h₀ := s.heap) (Nat.le_refl _) fun n c hm => ⟨x.cell n c (lookup_of_mem_nodup (cellsFrom_names scope.names 0 (s.heap.objs.size + 1) [] [] rfl ▸ hnd) hm), x.above n c hm⟩
  refine h _ s.heap.objs.size h₁ tk cells rfl rfl st ⟨x.toInCall.ns, fun b o e => hk₁ b o (of_hideAll _ e), Nat.le_of_eq (hideAll_size _ _)⟩ (fun p hp => ?_) Y hk₁ BG
  refine ⟨(NC p hp).1, (NC p hp).2.1, ?_⟩
  cases q : (hideAll s.heap W).get? p.1 with
  | none => rfl
  | some o => have := of_hideAll _ q; rw [(NC p hp).2.2] at this; cases this
end

/-- a call's contract: it may change the objects at W alone; Pre of the heap ahead, Post of the heap ahead, the answer, the heap behind -/
def Con (w : World) (p : Program) (loose : List Str) (mean : ExcName → Option Value) (mg mb : Str → Option Value) (f : Addr) (vs : List Value) (d u : Nat) (W : List Addr) (Pre : Heap → Prop) (Post : Heap → Value → Heap → Prop) : Prop :=
  ∀ (dp un : Nat) (gd : Option (List Code)) (cn : Str) (cs : Scope) (a : Addr) (ccd : Value) (cl : List (Str × Addr)) (outer : List Env) (A₀ : Around) (base h₀ : Heap) (L : Addr) (m : Str → Option Value) (s : Shared) (Q E : Value → Shared → Prop),
    Below A₀ base outer h₀ → Fr h₀ L s.heap m → (Mine.hd.heap_39 w.params).In h₀ → Top p loose mean mg mb h₀ → cs.kind = .function → dp + d < recursionLimit → un + u < cLine → (∀ b ∈ W, h₀.get? b = none ∧ b ≠ L) → Pre s.heap →
    (∀ r h' tk', (∀ b o, b ∉ W → s.heap.get? b = some o → h'.get? b = some o) → Post s.heap r h' → Q r { s with heap := h', toks := tk' }) →
    wpAny (model PySem.Challenge.rw_xg0080_01.row.prog w) (ktrTop dp un gd cn cs L a ccd cl outer) (call (.ref f) vs) Q E s
end Mine
end

section
open PySem PySem.W PyProof.Rows PySem.Calls
set_option Elab.async false
set_option maxRecDepth 100000
namespace Mine
section
variable {w : World} {p : Program} {loose : List Str} {mean : ExcName → Option Value} {mg mb : Str → Option Value}

/-- the body of a def without cells; nothing of the caller's is changed -/
theorem con_of0 {f : Addr} {vs : List Value} {d u : Nat} {Pre : Heap → Prop} {Post : Heap → Value → Heap → Prop}
    {name qual : Str} {params : Arguments} {body : List Stmt} {scope : Scope} {dV kV doc pm cdv ct oc : Value} {an od : Option Addr} {osl : Array (Option Value)} {binds : List (Str × Value)}
    (ho : (Mine.hd.heap_39 w.params).lookup f = some ⟨oc, od, .func (fnOf name qual params body scope dV kV doc pm an cdv ct), osl⟩)
    (hcd : codeIn (Mine.hd.heap_39 w.params) cdv qual = true) (hd1 : 1 ≤ d)
    (hbind : bindArgs (fnOf name qual params body scope dV kV doc pm an cdv ct) ⟨vs, []⟩ = pure binds) (hloc : ∀ y ∈ binds, scope.names.lookup y.1 = some .local)
    (hcell : ∀ x ∈ scope.names, x.2 ≠ .cell) (hco : scope.isCoroutine = false) (hgen : scope.isGenerator = false) (hk : scope.kind = .function)
    (h : ∀ (dp un : Nat) (gd : Option (List Code)) (outer : List Env) (A₀ : Around) (base g : Heap) (L' : Addr) (h₁ : Heap) (s : Shared) (Q E : Value → Shared → Prop),
      Below A₀ base outer g → Fr g L' h₁ (fun y => binds.reverse.lookup y) → News g L' h₁ [] → (Mine.hd.heap_39 w.params).In g → Top p loose mean mg mb g → dp + d ≤ recursionLimit → un + u < cLine + 3 → Pre g →
      (∀ r h' tk', (∀ b o, g.get? b = some o → h'.get? b = some o) → Post g r h' → Q r { s with heap := h', toks := tk' }) →
      wpAny (model PySem.Challenge.rw_xg0080_01.row.prog w) (ktrTop dp un gd qual scope L' f cdv [] outer) (execs body (envOf qual scope L' f cdv))
        (fun fl s' => Q (match fl with | .ret v => v | _ => .none) s')
        (fun e s' => wpAny (model PySem.Challenge.rw_xg0080_01.row.prog w) (ktrTop dp un gd qual scope L' f cdv [] outer) (leaving (envOf qual scope L' f cdv) e) (fun _ s'' => E e s'') (fun e' s'' => E e' s'') s')
        { s with heap := h₁, toks := s.toks + binds.length }) :
    Con w p loose mean mg mb f vs d u [] Pre Post := by
  intro dp un gd cn cs a ccd cl outer A₀ base h₀ L m s Q E B F X T hkk hdp hun hW hpre hret
  refine wpAny_call ?_
  refine call_W (cl := []) [] B F hW T.nolimit rfl rfl hkk ((X.keeps F.keep) _ _ ho) rfl (codeRec_of (X.keeps F.keep) hcd) (by show dp < recursionLimit; omega) (BindsTo.of_eq hbind) hloc (fun g L' h₁ eg eL st F' hk₁ B' => ?_) hcell hco hgen hk
  have eg' : g = s.heap := eg
  subst eg'
  exact h (dp + 1) (un + 3) gd (envX cn cs L a ccd cl :: outer) _ base s.heap L' h₁ s Q E B' F' News.nil (X.keeps st) (T.keeps st) (by omega) (by omega) hpre
    (fun r h' tk' hk hp => hret r h' tk' (fun b o _ e => hk b o e) hp)
end
end Mine
end

section
open PySem PySem.W PyProof.Rows PySem.Calls
set_option Elab.async false
set_option maxRecDepth 100000
namespace Mine
/-- a side condition, to be shown behind the walk -/
structure Owe (P : Prop) : Prop where
  out : P

section
variable {prog : Program} {w : World} {A : Around} {E : Value → Shared → Prop} {s : Shared} {a b n : Int} {t u : Tok} {Q : Value → Shared → Prop}
theorem g_shl (h0 : Owe (0 ≤ n ∧ (Builtin.Int.intBits a : Int) + n ≤ 2 ^ 27)) (h : Q (.int (a * 2 ^ n.toNat) s.toks) { s with toks := s.toks + 1 }) :
    wpAny (model prog w) A (binaryOp .LShift (.int a t) (.int n u)) Q E s := lshift_int h0.out.1 h0.out.2 h
theorem g_ishl (h0 : Owe (0 ≤ n ∧ (Builtin.Int.intBits a : Int) + n ≤ 2 ^ 27)) (h : Q (.int (a * 2 ^ n.toNat) s.toks) { s with toks := s.toks + 1 }) :
    wpAny (model prog w) A (inplaceOp .LShift (.int a t) (.int n u)) Q E s := ilshift_int h0.out.1 h0.out.2 h
theorem fdiv_pow (a : Int) (k : Nat) : a.fdiv (2 ^ k) = a / 2 ^ k := Int.fdiv_eq_ediv_of_nonneg _ (Int.le_of_lt (kbt_pos k))
theorem g_shr (h0 : Owe (0 ≤ n)) (h : Q (.int (a / 2 ^ n.toNat) s.toks) { s with toks := s.toks + 1 }) :
    wpAny (model prog w) A (binaryOp .RShift (.int a t) (.int n u)) Q E s := rshift_int h0.out (by rw [fdiv_pow]; exact h)
theorem g_ishr (h0 : Owe (0 ≤ n)) (h : Q (.int (a / 2 ^ n.toNat) s.toks) { s with toks := s.toks + 1 }) :
    wpAny (model prog w) A (inplaceOp .RShift (.int a t) (.int n u)) Q E s := irshift_int h0.out (by rw [fdiv_pow]; exact h)
theorem g_and (h : Q (.int (Builtin.bitAnd a b) s.toks) { s with toks := s.toks + 1 }) : wpAny (model prog w) A (binaryOp .BitAnd (.int a t) (.int b u)) Q E s := and_int h
theorem g_or (h : Q (.int (Builtin.bitOr a b) s.toks) { s with toks := s.toks + 1 }) : wpAny (model prog w) A (binaryOp .BitOr (.int a t) (.int b u)) Q E s := or_int h
theorem g_xor (h : Q (.int (Builtin.bitXor a b) s.toks) { s with toks := s.toks + 1 }) : wpAny (model prog w) A (binaryOp .BitXor (.int a t) (.int b u)) Q E s := xor_int h
theorem g_add (h : Q (.int (a + b) s.toks) { s with toks := s.toks + 1 }) : wpAny (model prog w) A (binaryOp .Add (.int a t) (.int b u)) Q E s := PyProof.Rows.add_int h
theorem g_sub (h : Q (.int (a - b) s.toks) { s with toks := s.toks + 1 }) : wpAny (model prog w) A (binaryOp .Sub (.int a t) (.int b u)) Q E s := PyProof.Rows.sub_int h
theorem g_mul (h0 : Owe (IntMulOk a b)) (h : Q (.int (a * b) s.toks) { s with toks := s.toks + 1 }) : wpAny (model prog w) A (binaryOp .Mult (.int a t) (.int b u)) Q E s := PyProof.Rows.mul_int h h0.out
theorem g_div (h0 : Owe (0 < b ∧ Builtin.divisionGoesByPylong a b = false)) (h : Q (.int (a / b) s.toks) { s with toks := s.toks + 1 }) : wpAny (model prog w) A (binaryOp .FloorDiv (.int a t) (.int b u)) Q E s :=
  floordiv_int (by have := h0.out.1; lia) (by rw [Int.fdiv_eq_ediv_of_nonneg _ (Int.le_of_lt h0.out.1)]; exact h) (Or.inl h0.out.2)
end

section
variable {w : World} {p : Program} {loose : List Str} {mean : ExcName → Option Value} {mg mb : Str → Option Value}
  {dp un : Nat} {gd : Option (List Code)} {cn : Str} {cs : Scope} {a : Addr} {ccd : Value} {cl : List (Str × Addr)} {outer : List Env} {A₀ : Around} {base h₀ : Heap} {L : Addr} {m : Str → Option Value} {news : List (Addr × Obj)} {s : Shared} {Q E : Value → Shared → Prop}
  {f : Addr} {vs : List Value} {d u : Nat} {Pre : Heap → Prop} {Post : Heap → Value → Heap → Prop}

abbrev tup2 (q r : Int) (t1 t2 : Tok) : Obj := { cls := .type "tuple", data := .seq #[.int q t1, .int r t2] }
/-- a new pair of ints -/
def QR (q r : Int) (g : Heap) (v : Value) (h' : Heap) : Prop := ∃ T t1 t2, v = .ref T ∧ g.get? T = none ∧ h'.get? T = some (tup2 q r t1 t2)

theorem QR.of {g h' : Heap} {q r q' r' : Int} {T : Addr} {t1 t2 : Tok} {nw : List (Addr × Obj)} (N : News g L h' nw) (hm : (T, tup2 q' r' t1 t2) ∈ nw) (e1 : q' = q) (e2 : r' = r) : QR q r g (.ref T) h' := by
  subst e1 e2
  exact ⟨T, t1, t2, rfl, (N _ hm).2.2, (N _ hm).1⟩

theorem fresh_of (F : Fr h₀ L s.heap m) {T : Addr} (e : s.heap.get? T = none) : h₀.get? T = none ∧ T ≠ L := by
  refine ⟨?_, fun q => ?_⟩
  · cases q : h₀.get? T with
    | none => rfl
    | some o => rw [F.keep _ _ q] at e; cases e
  · obtain ⟨oL, _, _, hL, _⟩ := F.ns
    rw [q, hL] at e; cases e

theorem con_useT {q r : Int} (C : Con w p loose mean mg mb f vs d u [] (fun _ => True) (QR q r))
    (B : Below A₀ base outer h₀) (F : Fr h₀ L s.heap m) (X : (Mine.hd.heap_39 w.params).In h₀) (N : News h₀ L s.heap news) (T : Top p loose mean mg mb h₀) (hk : cs.kind = .function) (hd : dp + d < recursionLimit) (hu : un + u < cLine)
    (h : ∀ T q' r' t1 t2 h' tk', q' = q → r' = r → Fr h₀ L h' m → News h₀ L h' ((T, tup2 q' r' t1 t2) :: news) → (∀ p ∈ news, p.1 ≠ T) → Q (.ref T) { s with heap := h', toks := tk' }) :
    wpAny (model PySem.Challenge.rw_xg0080_01.row.prog w) (ktrTop dp un gd cn cs L a ccd cl outer) (call (.ref f) vs) Q E s := by
  refine C dp un gd cn cs a ccd cl outer A₀ base h₀ L m s Q E B F X T hk hd hu (fun _ h => nomatch h) trivial fun v h' tk' hkeep hp => ?_
  obtain ⟨T, t1, t2, rfl, e1, e2⟩ := hp
  have hkk : ∀ b o, s.heap.get? b = some o → h'.get? b = some o := fun b o e => hkeep b o (fun h => nomatch h) e
  have hf := fresh_of F e1
  refine h T q r t1 t2 h' tk' rfl rfl (F.keeps hkk) (fun p hp => ?_) (fun p hp e => ?_)
  · rcases List.mem_cons.mp hp with rfl | hp
    · exact ⟨e2, hf.2, hf.1⟩
    · exact ⟨hkk _ _ (N p hp).1, (N p hp).2⟩
  · have := (N p hp).1; rw [e, e1] at this; cases this
theorem g_divmod {A : Around} {x y : Int} {tx ty : Tok} (F : Fr h₀ L s.heap m) (N : News h₀ L s.heap news) (h0 : Owe (0 < y ∧ Builtin.divisionGoesByPylong x y = false))
    (h : ∀ T q r t1 t2 h' tk', q = x / y → r = x % y → Fr h₀ L h' m → News h₀ L h' ((T, tup2 q r t1 t2) :: news) → (∀ p ∈ news, p.1 ≠ T) → Q (.ref T) { s with heap := h', toks := tk' }) :
    wpAny (model PySem.Challenge.rw_xg0080_01.row.prog w) A (call (.builtin "divmod") [.int x tx, .int y ty]) Q E s := by
  obtain ⟨h1, h2⟩ := h0.out
  refine divmod_N F N (by lia) (fun h' F' N' => ?_) (Or.inl h2)
  have e1 : x.fdiv y = x / y := Int.fdiv_eq_ediv_of_nonneg _ (Int.le_of_lt h1)
  have e2 : x.fmod y = x % y := Int.fmod_eq_emod_of_nonneg _ (Int.le_of_lt h1)
  refine h s.heap.objs.size _ _ s.toks (s.toks + 1) h' (s.toks + 1 + 1) e1 e2 F' N' fun p hp e => ?_
  have := Heap.lt_size (N p hp).1
  rw [e] at this; exact Nat.lt_irrefl _ this
end
end Mine
end

section
open PySem PySem.W PyProof.Rows PySem.Calls
set_option Elab.async false
namespace Mine
theorem lt_in {d a : Addr} {o : Obj} {news : List (Addr × Obj)} (h : ∀ p ∈ news, @LT.lt Nat _ p.1 d) (hm : (a, o) ∈ news) : @LT.lt Nat _ a d := h _ hm
theorem ne_in {d a : Addr} {o : Obj} {news : List (Addr × Obj)} (h : ∀ p ∈ news, p.1 ≠ d) (hm : (a, o) ∈ news) : @Ne Nat a d := h _ hm
section
variable {M : Model} {A : Around} {cn : Str} {cs : Scope} {L a : Addr} {ccd : Value} {cl : List (Str × Addr)} {x : Str} {T0 : Tok} {hp h₀ : Heap} {gg : Array GenState} {dd : Drawn} {oo : OsState} {m : Str → Option Value} {news : List (Addr × Obj)} {Q : Unit → Shared → Prop} {E : Value → Shared → Prop}
/-- a name is bound to an int: its token and the token count are forgotten, the map is named -/
theorem gstI {i : Int} {T : Tok} (F : Fr h₀ L hp m) (N : News h₀ L hp news)
    (h : ∀ h' t tk, let m' := (fun y => if y = x then some (.int i t) else m y); Fr h₀ L h' m' → News h₀ L h' news → Q () ⟨h', gg, dd, tk, oo⟩)
    (hk : cs.kind = .function := by rfl) (hx : (envX cn cs L a ccd cl).kindOf x = some .local := by rfl) : wpAny M A (storeName (envX cn cs L a ccd cl) x (.int i T)) Q E ⟨hp, gg, dd, T0, oo⟩ :=
  storeX_L (s := ⟨hp, gg, dd, T0, oo⟩) F N (fun h' F' N' => h h' T _ F' N') hk hx
theorem gstV {v : Value} (F : Fr h₀ L hp m) (N : News h₀ L hp news)
    (h : ∀ h' tk, let m' := (fun y => if y = x then some v else m y); Fr h₀ L h' m' → News h₀ L h' news → Q () ⟨h', gg, dd, tk, oo⟩)
    (hk : cs.kind = .function := by rfl) (hx : (envX cn cs L a ccd cl).kindOf x = some .local := by rfl) : wpAny M A (storeName (envX cn cs L a ccd cl) x v) Q E ⟨hp, gg, dd, T0, oo⟩ :=
  storeX_L (s := ⟨hp, gg, dd, T0, oo⟩) F N (fun h' F' N' => h h' _ F' N') hk hx
end
end Mine
end

section
set_option Elab.async false
namespace Mine
/-- the middle of two ints -/
theorem mids {lx rx mid P : Int} (i2 : lx < rx) (e : ¬ lx + 1 = rx) (em : mid = (lx + rx) / 2) (i4 : rx - lx ≤ P * 2) : lx < mid ∧ mid < rx ∧ mid - lx ≤ P ∧ rx - mid ≤ P := by
  subst em
  refine ⟨?_, ?_, ?_, ?_⟩ <;> lia
theorem natz {lx mid rx : Int} (i1 : 0 ≤ lx) (h1 : lx < mid) (h2 : mid < rx) : lx.toNat < mid.toNat ∧ mid.toNat < rx.toNat ∧ rx.toNat - lx.toNat = (mid.toNat - lx.toNat) + (rx.toNat - mid.toNat) ∧ ((mid.toNat - lx.toNat : Nat) : Int) = mid - lx := by
  obtain ⟨a, rfl⟩ := Int.eq_ofNat_of_zero_le i1
  obtain ⟨b, rfl⟩ := Int.eq_ofNat_of_zero_le (Int.le_of_lt (Int.lt_of_le_of_lt i1 h1))
  obtain ⟨d, rfl⟩ := Int.eq_ofNat_of_zero_le (Int.le_of_lt (Int.lt_of_le_of_lt i1 (Int.lt_trans h1 h2)))
  have k1 := Int.ofNat_lt.mp h1
  have k2 := Int.ofNat_lt.mp h2
  clear h1 h2 i1
  simp only [Int.toNat_natCast]
  exact ⟨k1, k2, by lia, by lia⟩
theorem toNat_le_of {r : Int} {n : Nat} (h : r ≤ n) : r.toNat ≤ n := Int.toNat_le.mpr h
theorem sub_one_add {a b : Nat} (h : a < b) : b - a = (b - a - 1) + 1 := (Nat.sub_add_cancel (Nat.sub_pos_of_lt h)).symm
end Mine
end

section
open PySem PySem.W PyProof.Rows PySem.Calls
set_option Elab.async false
set_option maxRecDepth 100000
namespace Mine
section
variable {w : World} {p : Program} {loose : List Str} {mean : ExcName → Option Value} {mg mb : Str → Option Value}

def D2Ok (k : Nat) (a b n : Int) : Prop := 0 ≤ a ∧ 1 ≤ n ∧ n ≤ 4000 * 2 ^ k ∧ n ≤ 8100 ∧ 2 ^ (n - 1).toNat ≤ b ∧ b < 2 ^ n.toNat ∧ a < b * 2 ^ n.toNat
def D3Ok (k : Nat) (x y b b1 b2 n : Int) : Prop := 0 ≤ x ∧ x < b ∧ 0 ≤ y ∧ y < 2 ^ n.toNat ∧ 1 ≤ n ∧ n ≤ 4000 * 2 ^ k ∧ n ≤ 8100 ∧ b = b1 * 2 ^ n.toNat + b2 ∧ 0 ≤ b2 ∧ b2 < 2 ^ n.toNat ∧ 2 ^ (n - 1).toNat ≤ b1 ∧ b1 < 2 ^ n.toNat
def D2All (w : World) (p : Program) (loose : List Str) (mean : ExcName → Option Value) (mg mb : Str → Option Value) (k : Nat) : Prop :=
  ∀ (a b n : Int) (ta tb tn : Tok), D2Ok k a b n → Con w p loose mean mg mb 64 [.int a ta, .int b tb, .int n tn] (2 * k + 1) (16 * k + 8) [] (fun _ => True) (QR (a / b) (a % b))
def D3All (w : World) (p : Program) (loose : List Str) (mean : ExcName → Option Value) (mg mb : Str → Option Value) (k : Nat) : Prop :=
  ∀ (x y b b1 b2 n : Int) (t1 t2 t3 t4 t5 t6 : Tok), D3Ok k x y b b1 b2 n →
    Con w p loose mean mg mb 71 [.int x t1, .int y t2, .int b t3, .int b1 t4, .int b2 t5, .int n t6] (2 * k + 2) (16 * k + 16) [] (fun _ => True) (QR ((x * 2 ^ n.toNat + y) / b) ((x * 2 ^ n.toNat + y) % b))
/-- the next lower level, if there is one -/
def D3Up (w : World) (p : Program) (loose : List Str) (mean : ExcName → Option Value) (mg mb : Str → Option Value) (k : Nat) : Prop := ∀ j, k = j + 1 → D3All w p loose mean mg mb j

variable {dp un : Nat} {gd : Option (List Code)} {cn : Str} {cs : Scope} {ad : Addr} {ccd : Value} {cl : List (Str × Addr)} {outer : List Env} {A₀ : Around} {base h₀ : Heap} {L : Addr} {m : Str → Option Value} {news : List (Addr × Obj)} {s : Shared} {Q E : Value → Shared → Prop} {k : Nat}
theorem use_d2 {a b n : Int} {ta tb tn : Tok} (I : D2All w p loose mean mg mb k) (B : Below A₀ base outer h₀) (F : Fr h₀ L s.heap m) (X : (Mine.hd.heap_39 w.params).In h₀) (N : News h₀ L s.heap news) (T : Top p loose mean mg mb h₀) (hk : cs.kind = .function)
    (h0 : Owe (D2Ok k a b n ∧ dp + (2 * k + 1) < recursionLimit ∧ un + (16 * k + 8) < cLine))
    (h : ∀ T q' r' t1 t2 h' tk', q' = a / b → r' = a % b → Fr h₀ L h' m → News h₀ L h' ((T, tup2 q' r' t1 t2) :: news) → (∀ p ∈ news, p.1 ≠ T) → Q (.ref T) { s with heap := h', toks := tk' }) :
    wpAny (model PySem.Challenge.rw_xg0080_01.row.prog w) (ktrTop dp un gd cn cs L ad ccd cl outer) (call (.ref 64) [.int a ta, .int b tb, .int n tn]) Q E s :=
  con_useT (I a b n ta tb tn h0.out.1) B F X N T hk h0.out.2.1 h0.out.2.2 h
theorem use_d3 {x y b b1 b2 n : Int} {t1 t2 t3 t4 t5 t6 : Tok} (I : D3Up w p loose mean mg mb k) (B : Below A₀ base outer h₀) (F : Fr h₀ L s.heap m) (X : (Mine.hd.heap_39 w.params).In h₀) (N : News h₀ L s.heap news) (T : Top p loose mean mg mb h₀) (hk : cs.kind = .function)
    (h0 : Owe (∃ j, k = j + 1 ∧ D3Ok j x y b b1 b2 n ∧ dp + (2 * j + 2) < recursionLimit ∧ un + (16 * j + 16) < cLine))
    (h : ∀ T q' r' t1 t2 h' tk', q' = (x * 2 ^ n.toNat + y) / b → r' = (x * 2 ^ n.toNat + y) % b → Fr h₀ L h' m → News h₀ L h' ((T, tup2 q' r' t1 t2) :: news) → (∀ p ∈ news, p.1 ≠ T) → Q (.ref T) { s with heap := h', toks := tk' }) :
    wpAny (model PySem.Challenge.rw_xg0080_01.row.prog w) (ktrTop dp un gd cn cs L ad ccd cl outer) (call (.ref 71) [.int x t1, .int y t2, .int b t3, .int b1 t4, .int b2 t5, .int n t6]) Q E s := by
  obtain ⟨j, rfl, h1, h2, h3⟩ := h0.out
  exact con_useT (I j rfl x y b b1 b2 n t1 t2 t3 t4 t5 t6 h1) B F X N T hk h2 h3 h
end
end Mine
end

section
open PySem PySem.W PyProof.Rows
set_option Elab.async false
set_option linter.unusedVariables false
namespace Mine
theorem pow_pos' (k : Nat) : (0 : Int) < 2 ^ k := kbt_pos k
theorem pow_le {i j : Nat} (h : i ≤ j) : (2 : Int) ^ i ≤ 2 ^ j := by
  rw [← kbt_cast, ← kbt_cast]; exact Int.ofNat_le.mpr (Nat.pow_le_pow_right (by decide) h)
theorem pow_lt {i j : Nat} (h : i < j) : (2 : Int) ^ i < 2 ^ j := by
  rw [← kbt_cast, ← kbt_cast]; exact Int.ofNat_lt.mpr (Nat.pow_lt_pow_right (by decide) h)
theorem pow_lt_inv {i j : Nat} (h : (2 : Int) ^ i < 2 ^ j) : i < j := by
  rcases Nat.lt_or_ge i j with q | q
  · exact q
  · have := pow_le q; lia
theorem bits_of_lt {x : Int} {k : Nat} (h0 : 0 ≤ x) (h : x < 2 ^ k) : Builtin.Int.intBits x ≤ k := by
  refine intBits_le ?_
  rw [← kbt_cast] at h
  generalize 2 ^ k = c at h ⊢
  lia
theorem lt_of_bits {x : Int} {k : Nat} (h0 : 0 ≤ x) (h : Builtin.Int.intBits x ≤ k) : x < 2 ^ k := by
  have h1 := natAbs_lt_pow_bits x
  have h2 : (2 : Nat) ^ Builtin.Int.intBits x ≤ 2 ^ k := Nat.pow_le_pow_right (by decide) h
  rw [← kbt_cast]
  generalize (2 : Nat) ^ k = c at h2 ⊢
  lia
theorem ediv_emod (a b : Int) : a = (a / b) * b + a % b := by
  have := Int.mul_ediv_add_emod a b; rw [Int.mul_comm] at this; lia
theorem ediv_emod_of {a b q r : Int} (hb : 0 < b) (h : a = q * b + r) (h0 : 0 ≤ r) (h1 : r < b) : a / b = q ∧ a % b = r :=
  kbt_unique hb (by rw [h, Int.mul_comm]; lia) h0 h1
theorem or_pow {x y : Int} (k : Nat) (hx : 0 ≤ x) (h0 : 0 ≤ y) (h1 : y < 2 ^ k) : Builtin.bitOr (x * 2 ^ k) y = x * 2 ^ k + y := by
  obtain ⟨a, rfl⟩ := Int.eq_ofNat_of_zero_le hx
  obtain ⟨b, rfl⟩ := Int.eq_ofNat_of_zero_le h0
  have hb : b < 2 ^ k := by rw [← kbt_cast] at h1; exact Int.ofNat_lt.mp h1
  have e : (a : Int) * 2 ^ k = ((2 ^ k * a : Nat) : Int) := by rw [Int.natCast_mul, kbt_cast, Int.mul_comm]
  rw [e]
  have hbn : ∀ z : Nat, Builtin.bitNot (z : Int) = Int.negSucc z := fun z => by unfold Builtin.bitNot; lia
  unfold Builtin.bitOr Builtin.bitAnd
  rw [hbn, hbn]
  have d1 : ∀ z : Nat, decide (0 ≤ Int.negSucc z) = false := fun z => by simp
  have nn : ∀ z : Nat, Builtin.bitNot (Int.negSucc z) = (z : Int) := fun z => by unfold Builtin.bitNot; lia
  simp only [d1, nn, Int.toNat_natCast]
  have := Nat.two_pow_add_eq_or_of_lt hb a
  rw [← this, Int.natCast_add]
  unfold Builtin.bitNot
  generalize ((2 ^ k * a : Nat) : Int) = z
  lia
theorem shl_or {x y : Int} (k : Nat) (hx : 0 ≤ x) (h0 : 0 ≤ y) (h1 : y < 2 ^ k) : Builtin.bitOr (x * 2 ^ k) y = x * 2 ^ k + y := or_pow k hx h0 h1
theorem mask_eq (x : Int) (k : Nat) : Builtin.bitAnd x (1 * 2 ^ k - 1) = x % 2 ^ k := by rw [Int.one_mul]; exact kbt_mask x k

theorem half_b {b : Int} (h : Nat) (h1 : 1 ≤ h) (hb0 : 2 ^ (2 * h - 1) ≤ b) (hb1 : b < 2 ^ (2 * h)) : 2 ^ (h - 1) ≤ b / 2 ^ h ∧ b / 2 ^ h < 2 ^ h := by
  have hP := pow_pos' h
  have e1 : (2 : Int) ^ (2 * h) = 2 ^ h * 2 ^ h := by rw [← Int.pow_add]; congr 1; lia
  have e2 : (2 : Int) ^ (2 * h - 1) = 2 ^ (h - 1) * 2 ^ h := by rw [← Int.pow_add]; congr 1; lia
  rw [e1] at hb1; rw [e2] at hb0
  exact ⟨Int.le_ediv_of_mul_le hP hb0, Int.ediv_lt_of_lt_mul hP hb1⟩
theorem mid_eq {a P : Int} (hP : 0 < P) : a / (P * P) * P + a / P % P = a / P := by
  have h1 : a / (P * P) = a / P / P := by rw [Int.ediv_ediv_of_nonneg (by lia)]
  rw [h1]; exact (ediv_emod (a / P) P).symm
theorem d2_core {a b : Int} (h : Nat) (h1 : 1 ≤ h) (ha : 0 ≤ a) (hb0 : 2 ^ (2 * h - 1) ≤ b) (hb1 : b < 2 ^ (2 * h)) (hab : a < b * 2 ^ (2 * h)) :
    (0 ≤ a / 2 ^ (2 * h) ∧ a / 2 ^ (2 * h) < b ∧ 0 ≤ a / 2 ^ h % 2 ^ h ∧ a / 2 ^ h % 2 ^ h < 2 ^ h) ∧
    (0 ≤ (a / 2 ^ (2 * h) * 2 ^ h + a / 2 ^ h % 2 ^ h) % b ∧ (a / 2 ^ (2 * h) * 2 ^ h + a / 2 ^ h % 2 ^ h) % b < b ∧ 0 ≤ a % 2 ^ h ∧ a % 2 ^ h < 2 ^ h) ∧
    (0 ≤ (a / 2 ^ (2 * h) * 2 ^ h + a / 2 ^ h % 2 ^ h) / b ∧ (a / 2 ^ (2 * h) * 2 ^ h + a / 2 ^ h % 2 ^ h) / b < 2 ^ h) ∧
    Builtin.bitOr ((a / 2 ^ (2 * h) * 2 ^ h + a / 2 ^ h % 2 ^ h) / b * 2 ^ h) (((a / 2 ^ (2 * h) * 2 ^ h + a / 2 ^ h % 2 ^ h) % b * 2 ^ h + a % 2 ^ h) / b) = a / b ∧
    ((a / 2 ^ (2 * h) * 2 ^ h + a / 2 ^ h % 2 ^ h) % b * 2 ^ h + a % 2 ^ h) % b = a % b := by
  have hP := pow_pos' h
  have hb : 0 < b := by have := pow_pos' (2 * h - 1); lia
  have e1 : (2 : Int) ^ (2 * h) = 2 ^ h * 2 ^ h := by rw [← Int.pow_add]; congr 1; lia
  rw [e1] at hab ⊢
  have ho := @or_pow ((a / (2 ^ h * 2 ^ h) * 2 ^ h + a / 2 ^ h % 2 ^ h) / b) (((a / (2 ^ h * 2 ^ h) * 2 ^ h + a / 2 ^ h % 2 ^ h) % b * 2 ^ h + a % 2 ^ h) / b) h
  generalize hPe : (2 : Int) ^ h = P at hP hab ho ⊢
  rw [mid_eq hP] at ho ⊢
  have x1 : 0 ≤ a / (P * P) := Int.ediv_nonneg ha (Int.mul_nonneg (by lia) (by lia))
  have x2 : a / (P * P) < b := Int.ediv_lt_of_lt_mul (Int.mul_pos hP hP) hab
  have y1 := Int.emod_nonneg (a / P) (show P ≠ 0 by lia)
  have y2 := Int.emod_lt_of_pos (a / P) hP
  have z1 := Int.emod_nonneg a (show P ≠ 0 by lia)
  have z2 := Int.emod_lt_of_pos a hP
  have r1 := Int.emod_nonneg (a / P) (show b ≠ 0 by lia)
  have r2 := Int.emod_lt_of_pos (a / P) hb
  have m0 : 0 ≤ a / P := Int.ediv_nonneg ha (by lia)
  have q1 : 0 ≤ a / P / b := Int.ediv_nonneg m0 (by lia)
  have m1 : a / P < P * b := Int.ediv_lt_of_lt_mul hP (by rw [Int.mul_comm P b, Int.mul_assoc]; exact hab)
  have q2 : a / P / b < P := Int.ediv_lt_of_lt_mul hb m1
  have ed := ediv_emod a P
  have em := ediv_emod (a / P) b
  generalize hM : a / P = M at *
  generalize hz : a % P = z at *
  generalize hq : M / b = q at *
  generalize hr : M % b = r at *
  have s1 : 0 ≤ r * P + z := by have := Int.mul_nonneg r1 (Int.le_of_lt hP); lia
  have s2 : r * P + z < b * P := by
    have := Int.mul_le_mul_of_nonneg_right (show r ≤ b - 1 by lia) (Int.le_of_lt hP)
    rw [Int.sub_mul] at this; lia
  have t1 : 0 ≤ (r * P + z) / b := Int.ediv_nonneg s1 (by lia)
  have t2 : (r * P + z) / b < P := Int.ediv_lt_of_lt_mul hb (by rw [Int.mul_comm P b]; exact s2)
  have ew := ediv_emod (r * P + z) b
  have w1 := Int.emod_nonneg (r * P + z) (show b ≠ 0 by lia)
  have w2 := Int.emod_lt_of_pos (r * P + z) hb
  have fin := @ediv_emod_of a b (q * P + (r * P + z) / b) ((r * P + z) % b) hb (by
    rw [Int.add_mul]
    have : q * P * b = q * b * P := by rw [Int.mul_assoc, Int.mul_comm P b, ← Int.mul_assoc]
    have e3 : M * P = q * b * P + r * P := by rw [← Int.add_mul, ← em]
    lia) w1 w2
  refine ⟨⟨x1, x2, y1, y2⟩, ⟨r1, r2, z1, z2⟩, ⟨q1, q2⟩, ?_, fin.2.symm⟩
  rw [ho q1 t1 t2, fin.1]
theorem p21 : (2 : Int) ^ Int.toNat 1 = 2 := rfl
theorem noPy {x y : Int} (h0 : 0 ≤ y) (h : y < 2 ^ 8999) : Builtin.divisionGoesByPylong x y = false := by
  refine PyProof.noPylong_of_log2 ?_
  have h1 := bits_of_lt h0 h
  unfold Builtin.Int.intBits at h1
  by_cases hy : y = 0
  · subst hy; decide
  · have : (y == 0) = false := by simpa using hy
    rw [this] at h1
    simp only [Bool.false_eq_true, if_false] at h1
    lia
theorem d2_even (k : Nat) {a b n : Int} (ha : 0 ≤ a) (hn : 4000 < n) (hn1 : n ≤ 4000 * 2 ^ k) (hn2 : n ≤ 8101) (he : n % 2 = 0) (hb0 : 2 ^ (n - 1).toNat ≤ b) (hb1 : b < 2 ^ n.toNat) (hab : a < b * 2 ^ n.toNat) :
    ∃ j, k = j + 1 ∧ D3Ok j (a / 2 ^ n.toNat) (a / 2 ^ (n / 2).toNat % 2 ^ (n / 2).toNat) b (b / 2 ^ (n / 2).toNat) (b % 2 ^ (n / 2).toNat) (n / 2) ∧
      ∀ q1 r1, q1 = (a / 2 ^ n.toNat * 2 ^ (n / 2).toNat + a / 2 ^ (n / 2).toNat % 2 ^ (n / 2).toNat) / b → r1 = (a / 2 ^ n.toNat * 2 ^ (n / 2).toNat + a / 2 ^ (n / 2).toNat % 2 ^ (n / 2).toNat) % b →
        D3Ok j r1 (a % 2 ^ (n / 2).toNat) b (b / 2 ^ (n / 2).toNat) (b % 2 ^ (n / 2).toNat) (n / 2) ∧ (0 ≤ q1 ∧ q1 < 2 ^ (n / 2).toNat) ∧
        Builtin.bitOr (q1 * 2 ^ (n / 2).toNat) ((r1 * 2 ^ (n / 2).toNat + a % 2 ^ (n / 2).toNat) / b) = a / b ∧ (r1 * 2 ^ (n / 2).toNat + a % 2 ^ (n / 2).toNat) % b = a % b := by
  cases k with
  | zero => exfalso; simp at hn1; lia
  | succ j =>
    have e1 : n.toNat = 2 * (n / 2).toNat := by lia
    have e2 : (n - 1).toNat = 2 * (n / 2).toNat - 1 := by lia
    have e3 : (n / 2 - 1).toNat = (n / 2).toNat - 1 := by lia
    have hh : n / 2 ≤ 4000 * 2 ^ j := by rw [Int.pow_succ] at hn1; lia
    have hP := pow_pos' (n / 2).toNat
    rw [e1] at hb1 hab ⊢
    rw [e2] at hb0
    have hbb := half_b (n / 2).toNat (by lia) hb0 hb1
    obtain ⟨⟨c1, c2, c3, c4⟩, ⟨c5, c6, c7, c8⟩, ⟨c9, c10⟩, c11, c12⟩ := d2_core (n / 2).toNat (by lia) ha hb0 hb1 hab
    have eb := ediv_emod b (2 ^ (n / 2).toNat)
    have b1 := Int.emod_nonneg b (show (2 : Int) ^ (n / 2).toNat ≠ 0 by lia)
    have b2 := Int.emod_lt_of_pos b hP
    refine ⟨j, rfl, ⟨c1, c2, c3, c4, by lia, hh, by lia, eb, b1, b2, by rw [e3]; exact hbb.1, hbb.2⟩, ?_⟩
    rintro q1 r1 rfl rfl
    exact ⟨⟨c5, c6, c7, c8, by lia, hh, by lia, eb, b1, b2, by rw [e3]; exact hbb.1, hbb.2⟩, ⟨c9, c10⟩, c11, c12⟩
/-- the odd case is the even one of the doubles -/
theorem d2_odd (k : Nat) {a b n : Int} (hok : D2Ok k a b n) (hn : 4000 < n) (he : n % 2 ≠ 0) : 0 ≤ a * 2 ∧ 4000 < n + 1 ∧ n + 1 ≤ 4000 * 2 ^ k ∧ n + 1 ≤ 8101 ∧ (n + 1) % 2 = 0 ∧
    2 ^ (n + 1 - 1).toNat ≤ b * 2 ∧ b * 2 < 2 ^ (n + 1).toNat ∧ a * 2 < b * 2 * 2 ^ (n + 1).toNat := by
  obtain ⟨h1, h2, h3, h4, h5, h6, h7⟩ := hok
  have e1 : (n + 1).toNat = n.toNat + 1 := by lia
  have e2 : (n + 1 - 1).toNat = (n - 1).toNat + 1 := by lia
  have e3 : (4000 : Int) * 2 ^ k % 2 = 0 := by lia
  rw [e1, e2, Int.pow_succ, Int.pow_succ]
  refine ⟨by lia, by lia, by lia, by lia, by lia, by lia, by lia, ?_⟩
  have hb : 0 < b := by have := pow_pos' (n - 1).toNat; lia
  have hm : b * 2 * (2 ^ n.toNat * 2) = b * 2 ^ n.toNat * 4 := by rw [Int.mul_assoc, Int.mul_assoc]; congr 1; lia
  have : 0 ≤ b * 2 ^ n.toNat := by lia
  rw [hm]; lia
theorem d2_big {k : Nat} {a b n : Int} (hok : D2Ok k a b n) (h : ¬ (Builtin.Int.intBits a : Int) - n ≤ 4000) : 4000 < n := by
  obtain ⟨h1, h2, h3, h4, h5, h6, h7⟩ := hok
  have hb : a < 2 ^ (n.toNat + n.toNat) := by
    rw [Int.pow_add]
    have := Int.mul_lt_mul_of_pos_right h6 (pow_pos' n.toNat)
    lia
  have := bits_of_lt h1 hb
  lia
section
variable {k : Nat} {a b n : Int}
/-- what the steps of _div2n1n reckon, in the walk's own words -/
def D2Raw (k : Nat) (a b n A B : Int) : Prop :=
  let h := (n / 2 ^ Int.toNat 1)
  let P := (2 : Int) ^ h.toNat
  ∃ j, k = j + 1 ∧ 0 ≤ n ∧ 0 ≤ h ∧ h ≤ 5000 ∧ D3Ok j (a / 2 ^ n.toNat) (Builtin.bitAnd (a / P) (1 * P - 1)) b (b / P) (Builtin.bitAnd b (1 * P - 1)) h ∧
    ∀ q1 r1, q1 = (a / 2 ^ n.toNat * P + Builtin.bitAnd (a / P) (1 * P - 1)) / b → r1 = (a / 2 ^ n.toNat * P + Builtin.bitAnd (a / P) (1 * P - 1)) % b →
      D3Ok j r1 (Builtin.bitAnd a (1 * P - 1)) b (b / P) (Builtin.bitAnd b (1 * P - 1)) h ∧ (Builtin.Int.intBits q1 : Int) + h ≤ 2 ^ 27 ∧
      ∀ q2 r2, q2 = (r1 * P + Builtin.bitAnd a (1 * P - 1)) / b → r2 = (r1 * P + Builtin.bitAnd a (1 * P - 1)) % b →
        Builtin.bitOr (q1 * P) q2 = A / B ∧ r2 = a % b ∧ r2 / 2 ^ Int.toNat 1 = a % b / 2
theorem d2_raw (hok : D2Ok k a b n) (hbig : ¬ (Builtin.Int.intBits a : Int) - n ≤ 4000) (hp : Builtin.bitAnd n 1 = 0) : D2Raw k a b n a b := by
  have h4 := d2_big hok hbig
  obtain ⟨h1, h2, h3, h3', h5, h6, h7⟩ := hok
  rw [bitAnd_m1] at hp
  obtain ⟨j, hj, o1, K⟩ := d2_even k h1 h4 h3 (by lia) hp h5 h6 h7
  unfold D2Raw
  simp only [p21, mask_eq]
  refine ⟨j, hj, by lia, by lia, by lia, o1, fun q1 r1 e1 e2 => ?_⟩
  obtain ⟨k1, k2, k3, k4⟩ := K q1 r1 e1 e2
  refine ⟨k1, ?_, fun q2 r2 e3 e4 => ?_⟩
  · have := bits_of_lt k2.1 k2.2; lia
  · rw [e3, e4]; exact ⟨k3, k4, by rw [k4]⟩
theorem d2_rawO (hok : D2Ok k a b n) (hbig : ¬ (Builtin.Int.intBits a : Int) - n ≤ 4000) (hp : Builtin.bitAnd n 1 ≠ 0) : D2Raw k (a * 2 ^ Int.toNat 1) (b * 2 ^ Int.toNat 1) (n + 1) a b := by
  have h4 := d2_big hok hbig
  rw [bitAnd_m1] at hp
  obtain ⟨o1, o2, o3, o4, o5, o6, o7, o8⟩ := d2_odd k hok h4 hp
  obtain ⟨j, hj, o1, K⟩ := d2_even k o1 o2 o3 o4 o5 o6 o7 o8
  unfold D2Raw
  simp only [p21, mask_eq]
  refine ⟨j, hj, by lia, by lia, by lia, o1, fun q1 r1 e1 e2 => ?_⟩
  obtain ⟨k1, k2, k3, k4⟩ := K q1 r1 e1 e2
  refine ⟨k1, ?_, fun q2 r2 e3 e4 => ?_⟩
  · have := bits_of_lt k2.1 k2.2; lia
  · rw [e3, e4]; exact ⟨by rw [k3, Int.mul_comm a, Int.mul_comm b, Int.mul_ediv_mul_of_pos _ _ (by decide)], k4, by rw [k4]⟩
theorem rem_half (a b : Int) : (a * 2 ^ Int.toNat 1) % (b * 2 ^ Int.toNat 1) / 2 = a % b := by
  rw [p21, Int.mul_comm a, Int.mul_comm b, Int.mul_emod_mul_of_pos _ _ (by decide)]; lia
theorem d2_bits (hok : D2Ok k a b n) : (Builtin.Int.intBits a : Int) + 1 ≤ 2 ^ 27 ∧ (Builtin.Int.intBits b : Int) + 1 ≤ 2 ^ 27 ∧ 0 < b ∧ ∀ x, Builtin.divisionGoesByPylong x b = false := by
  obtain ⟨h1, h2, h3, h4, h5, h6, h7⟩ := hok
  have hb : a < 2 ^ (n.toNat + n.toNat) := by
    rw [Int.pow_add]
    have := Int.mul_lt_mul_of_pos_right h6 (pow_pos' n.toNat)
    lia
  have b0 : 0 < b := by have := pow_pos' (n - 1).toNat; lia
  have e1 := bits_of_lt h1 hb
  have e2 := bits_of_lt (Int.le_of_lt b0) h6
  exact ⟨by lia, by lia, b0, fun x => noPy (Int.le_of_lt b0) (Int.lt_of_lt_of_le h6 (pow_le (by lia)))⟩
theorem bits1 {h : Int} (hh : h ≤ 5000) : (Builtin.Int.intBits 1 : Int) + h ≤ 2 ^ 27 := by
  have : Builtin.Int.intBits 1 = 1 := by decide
  lia
end
end Mine
end

local macro_rules | `(tactic| walk_at "binaryOp LShift int int") => `(tactic| (refine Mine.g_shl ?_ ?_; rotate_left))
local macro_rules | `(tactic| walk_at "inplaceOp LShift int int") => `(tactic| (refine Mine.g_ishl ?_ ?_; rotate_left))
local macro_rules | `(tactic| walk_at "binaryOp RShift int int") => `(tactic| (refine Mine.g_shr ?_ ?_; rotate_left))
local macro_rules | `(tactic| walk_at "inplaceOp RShift int int") => `(tactic| (refine Mine.g_ishr ?_ ?_; rotate_left))
local macro_rules | `(tactic| walk_at "binaryOp BitAnd int int") => `(tactic| (refine Mine.g_and ?_))
local macro_rules | `(tactic| walk_at "binaryOp BitOr int int") => `(tactic| (refine Mine.g_or ?_))
local macro_rules | `(tactic| walk_at "binaryOp BitXor int int") => `(tactic| (refine Mine.g_xor ?_))
local macro_rules | `(tactic| walk_at "binaryOp Add int int") => `(tactic| (refine Mine.g_add ?_))
local macro_rules | `(tactic| walk_at "binaryOp Sub int int") => `(tactic| (refine Mine.g_sub ?_))
local macro_rules | `(tactic| walk_at "binaryOp Mult int int") => `(tactic| (refine Mine.g_mul ?_ ?_; rotate_left))
local macro_rules | `(tactic| walk_at "binaryOp FloorDiv int int") => `(tactic| (refine Mine.g_div ?_ ?_; rotate_left))
local macro_rules | `(tactic| walk_at "execs cons") => `(tactic| (k_here; (try k_gentoks); (with_reducible refine PySem.wpAny_execs_cons ?_); (try dsimp only); (try k_fold)))
local macro_rules | `(tactic| walk_at "storeName") => `(tactic| (k_here; (try dsimp only); k_dflt ((first | refine' Mine.gstI ?F ?N ?_ ?a ?b | refine' Mine.gstV ?F ?N ?_ ?a ?b); (case F => k_asm); (case N => k_asm); (case a => rfl); (case b => rfl); k_whole); intros; (try k_sweep)))
local macro_rules | `(tactic| k_lt $h:ident) => `(tactic| (have l0 := $h; replace $h := PySem.W.allLt_of $h; simp only [PySem.W.AllLt, and_true] at $h:ident))
local macro_rules | `(tactic| k_ne) => `(tactic| (refine PySem.W.neN ?_; (try dsimp only); first | exact Nat.ne_of_lt (Mine.lt_in (by with_reducible assumption) (by k_mem)) | exact Nat.ne_of_gt (Mine.lt_in (by with_reducible assumption) (by k_mem)) | exact Mine.ne_in (by with_reducible assumption) (by k_mem) | exact (Mine.ne_in (by with_reducible assumption) (by k_mem)).symm | omega))
section
open PySem PySem.W PyProof.Rows PySem.Calls
set_option Elab.async false
set_option maxRecDepth 100000
set_option maxHeartbeats 8000000
namespace Mine
section
variable {w : World} {p : Program} {loose : List Str} {mean : ExcName → Option Value} {mg mb : Str → Option Value}
theorem fillDv2 : ∀ h : Heap, (Mine.hd.heap_39 w.params).In h → PySem.Challenge.rw_xg0080_01 = PySem.Challenge.rw_xg0080_01 := by k_fill; intro _ _; rfl
theorem d2_step (k : Nat) (IH : D3Up w p loose mean mg mb k) : D2All w p loose mean mg mb k := by
  intro a b n ta tb tn hok
  refine' con_of0 ?k6 ?k7 ?kd ?k9 ?kB ?c5 ?c2 ?c3 ?c4 ?_
  case k6 => k_is
  case k7 => k_is
  case kd => omega
  case k9 => exact rfl
  case kB => exact locs rfl
  case c5 => decide
  case c2 => exact rfl
  case c3 => exact rfl
  case c4 => exact rfl
  intro dp un gd outer A₀ base g L' h₁ s Q E B' F' N' X' T' hdp hun _ hret
  (try k_fold)
  repeat' (
    first
    | (k_unfold; (try dsimp only)) | (k_end; wrow_close)
    | ((with_reducible show wpAny _ _ (call (Value.ref _) _ _) _ _ _); (k_here; (with_reducible rename D3Up _ _ _ _ _ _ _ => IH); k_dflt (refine' use_d3 IH ?k1 ?k2 ?k3 ?k4 ?k5 ?k6 ?_ ?_; (case k1 => k_asm); (case k2 => k_asm); (case k3 => k_asm); (case k4 => k_asm); (case k5 => k_asm); (case k6 => exact rfl)); rotate_left; intro T' q' r' t1' t2' h' tk' hq' hr' F' N' l1; (try k_lt l1); (try dsimp only); (try k_fold)))
    | ((with_reducible show wpAny _ _ (call (Value.builtin "divmod") _ _) _ _ _); (k_here; k_dflt (refine' g_divmod ?k1 ?k2 ?_ ?_; (case k1 => k_asm); (case k2 => k_asm)); rotate_left; intro T' q' r' t1' t2' h' tk' hq' hr' F' N' l1; (try dsimp only); (try k_fold)))
    | walk1 | (dsimp only; walk1) | (leave1; walk_say "STEP leave1"; try dsimp only) | fail "no step")
  all_goals (try (refine hret _ _ _ (Fr.keep (by assumption)) ?_))
  all_goals (try (refine QR.of (by assumption) (List.Mem.head _) ?_ ?_))
  all_goals (try (exact absurd (by assumption : Builtin.bitAnd n 1 = 0) (by assumption)))
  all_goals (try (exact ⟨by decide⟩))
  all_goals (try assumption)
  all_goals obtain ⟨c1, c2, c3, c4⟩ := d2_bits hok
  all_goals (first | exact ⟨⟨c3, c4 _⟩⟩ | exact ⟨⟨by omega, by omega⟩⟩ | skip)
  all_goals (first
    | (obtain ⟨j, hj, n0, n1, n2, o1, K⟩ := d2_raw hok (by assumption) (by assumption); first
        | exact ⟨n0⟩ | exact ⟨n1⟩ | exact ⟨⟨n1, by have := bits1 n2; omega⟩⟩ | exact ⟨⟨j, hj, o1, by omega, by omega⟩⟩ | exact ⟨⟨j, hj, (K _ _ (by assumption) (by assumption)).1, by omega, by omega⟩⟩
        | exact ⟨⟨n1, by have := (K _ _ (by assumption) (by assumption)).2.1; omega⟩⟩ | exact ((K _ _ (by assumption) (by assumption)).2.2 _ _ (by assumption) (by assumption)).1 | exact ((K _ _ (by assumption) (by assumption)).2.2 _ _ (by assumption) (by assumption)).2.1)
    | (obtain ⟨j, hj, n0, n1, n2, o1, K⟩ := d2_rawO hok (by assumption) (by assumption); first
        | exact ⟨n0⟩ | exact ⟨n1⟩ | exact ⟨⟨n1, by have := bits1 n2; omega⟩⟩ | exact ⟨⟨j, hj, o1, by omega, by omega⟩⟩ | exact ⟨⟨j, hj, (K _ _ (by assumption) (by assumption)).1, by omega, by omega⟩⟩
        | exact ⟨⟨n1, by have := (K _ _ (by assumption) (by assumption)).2.1; omega⟩⟩ | exact ((K _ _ (by assumption) (by assumption)).2.2 _ _ (by assumption) (by assumption)).1 | exact (((K _ _ (by assumption) (by assumption)).2.2 _ _ (by assumption) (by assumption)).2.2).trans (rem_half a b))
    | skip)
end
end Mine
end

section
open PySem PySem.W PyProof.Rows PySem.Calls
set_option Elab.async false
set_option maxRecDepth 100000
namespace Mine
section
variable {prog : Program} {w : World} {A : Around} {E : Value → Shared → Prop} {Q : Flow → Shared → Prop} {s : Shared} {env : Env} {h₀ : Heap} {L : Addr} {m : Str → Option Value} {news : List (Addr × Obj)}
abbrev mapQR (m : Str → Option Value) (q r : Int) (tq tr : Tok) : Str → Option Value := fun y => if y = Str.ofString "r" then some (.int r tr) else if y = Str.ofString "q" then some (.int q tq) else m y
def D3Turn (h₀ : Heap) (L : Addr) (m : Str → Option Value) (news : List (Addr × Obj)) (b q r : Int) (s : Shared) (f : Flow) (s₃ : Shared) : Prop :=
  f = .next ∧ ∃ h' tk' m' t1 t2, s₃ = { s with heap := h', toks := tk' } ∧ Fr h₀ L h' m' ∧ News h₀ L h' news ∧ m' (Str.ofString "q") = some (.int (q - 1) t1) ∧ m' (Str.ofString "r") = some (.int (r + b) t2) ∧
    ∀ y, y ≠ Str.ofString "q" → y ≠ Str.ofString "r" → m' y = m y
theorem d3_while {test : Expr} {body : List Stmt} {pos : Pos} {q₀ r₀ b : Int} {tq₀ tr₀ tb : Tok} (F : Fr h₀ L s.heap m) (N : News h₀ L s.heap news)
    (hq : m (Str.ofString "q") = some (.int q₀ tq₀)) (hr : m (Str.ofString "r") = some (.int r₀ tr₀)) (_hb : m (Str.ofString "b") = some (.int b tb)) (h0 : Owe (0 < b ∧ r₀ < b))
    (turn : ∀ q r tq tr h₁ tk₁, Fr h₀ L h₁ (mapQR m q r tq tr) → News h₀ L h₁ news → wpAny (model prog w) A (isTrue test env (eval test env)) (fun bb s₂ =>
      if bb = true then r < 0 ∧ wpAny (model prog w) A (execs body env) (D3Turn h₀ L m news b q r s) E s₂ else 0 ≤ r ∧ ∃ h' tk', s₂ = { s with heap := h', toks := tk' } ∧ Fr h₀ L h' (mapQR m q r tq tr) ∧ News h₀ L h' news) E { s with heap := h₁, toks := tk₁ })
    (h : ∀ q r tq tr h' tk', q * b + r = q₀ * b + r₀ → 0 ≤ r → r < b → Fr h₀ L h' (mapQR m q r tq tr) → News h₀ L h' news → Q .next { s with heap := h', toks := tk' })
    (hE : PassesOwn (model prog w) A env E := by passes_own) :
    wpAny (model prog w) A (exec (.While test body [] pos) env) Q E s := by
  refine While_inv (J := fun k m₁ nw => nw = news ∧ ∃ q r tq tr, m₁ = mapQR m q r tq tr ∧ q * b + r = q₀ * b + r₀ ∧ r < b ∧ k = (b - r).toNat) F N ⟨rfl, q₀, r₀, tq₀, tr₀, ?_, rfl, h0.out.2, rfl⟩ ?_ hE
  · funext y
    by_cases h1 : y = Str.ofString "r"
    · subst h1; simp [mapQR, hr]
    · by_cases h2 : y = Str.ofString "q"
      · subst h2; simp [mapQR, hq, h1]
      · simp [mapQR, h1, h2]
  · rintro k m₁ nw h₁ tk₁ F₁ N₁ ⟨rfl, q, r, tq, tr, rfl, e1, e2, rfl⟩
    refine wpAny_mono (turn q r tq tr h₁ tk₁ F₁ N₁) (fun bb s₂ h₂ => ?_) fun _ _ x => x
    cases bb with
    | false =>
      simp only [Bool.false_eq_true, if_false] at h₂ ⊢
      obtain ⟨h3, h', tk', rfl, F', N'⟩ := h₂
      exact h q r tq tr h' tk' e1 h3 e2 F' N'
    | true =>
      simp only [if_true] at h₂ ⊢
      refine wpAny_mono h₂.2 (fun f s₃ h₃ => ?_) fun _ _ x => x
      obtain ⟨rfl, h', tk', m', t1, t2, rfl, F', N', a1, a2, a3⟩ := h₃
      refine WhileStep.intro F' N' (n' := (b - (r + b)).toNat) (by have := h0.out.1; have := h₂.1; lia) ⟨rfl, q - 1, r + b, t1, t2, ?_, by rw [Int.sub_mul]; lia, by have := h₂.1; lia, rfl⟩
      funext y
      by_cases h1 : y = Str.ofString "r"
      · subst h1; simp [mapQR, a2]
      · by_cases h2 : y = Str.ofString "q"
        · subst h2; simp [mapQR, a1, h1]
        · simp [mapQR, h1, h2, a3 y h2 h1]
end
end Mine
end

section
open PySem PySem.W PyProof.Rows
set_option Elab.async false
set_option linter.unusedVariables false
namespace Mine
section
variable {k : Nat} {x y b b1 b2 n : Int}
theorem mulok {a c : Int} {i j : Nat} (h0 : 0 ≤ a) (h1 : a < 2 ^ i) (h2 : 0 ≤ c) (h3 : c < 2 ^ j) (hi : i ≤ 1000000) (hj : j ≤ 1000000) : IntMulOk a c :=
  IntMulOk.of_bits (Nat.le_trans (bits_of_lt h0 h1) (Nat.le_trans hi (by decide))) (Nat.le_trans (bits_of_lt h2 h3) (Nat.le_trans hj (by decide)))
theorem d3_b (hok : D3Ok k x y b b1 b2 n) : 0 < b ∧ (Builtin.Int.intBits b1 : Int) + n ≤ 2 ^ 27 ∧ (Builtin.Int.intBits 1 : Int) + n ≤ 2 ^ 27 ∧ 0 ≤ n ∧ 0 < b1 := by
  obtain ⟨h1, h2, h3, h4, h5, h6, h7, h8, h9, h10, h11, h12⟩ := hok
  have b1p : 0 < b1 := by have := pow_pos' (n - 1).toNat; lia
  have hP := pow_pos' n.toNat
  have e1 := bits_of_lt (Int.le_of_lt b1p) h12
  have : Builtin.Int.intBits 1 = 1 := by decide
  have := Int.mul_pos b1p hP
  exact ⟨by lia, by lia, by lia, by lia, b1p⟩
theorem d3_eq (hok : D3Ok k x y b b1 b2 n) (he : x / 2 ^ n.toNat = b1) :
    Builtin.bitOr ((x - b1 * 2 ^ n.toNat + b1) * 2 ^ n.toNat) y - (1 * 2 ^ n.toNat - 1) * b2 < b ∧
    (1 * 2 ^ n.toNat - 1) * b + (Builtin.bitOr ((x - b1 * 2 ^ n.toNat + b1) * 2 ^ n.toNat) y - (1 * 2 ^ n.toNat - 1) * b2) = x * 2 ^ n.toNat + y ∧
    (Builtin.Int.intBits (x - b1 * 2 ^ n.toNat + b1) : Int) + n ≤ 2 ^ 27 ∧ IntMulOk (1 * 2 ^ n.toNat - 1) b2 := by
  obtain ⟨hb0, _, _, _, hb1⟩ := d3_b hok
  obtain ⟨h1, h2, h3, h4, h5, h6, h7, h8, h9, h10, h11, h12⟩ := hok
  have hP := pow_pos' n.toNat
  have hlt : n.toNat < 8101 := by lia
  have ex := ediv_emod x (2 ^ n.toNat)
  rw [he] at ex
  have m0 := Int.emod_nonneg x (show (2 : Int) ^ n.toNat ≠ 0 by lia)
  have m1 := Int.emod_lt_of_pos x hP
  have r0 : 0 ≤ x - b1 * 2 ^ n.toNat + b1 := by lia
  rw [or_pow n.toNat r0 h3 h4]
  have hsz : x - b1 * 2 ^ n.toNat + b1 < 2 ^ (n.toNat + 1) := by rw [Int.pow_succ]; lia
  have hbit := bits_of_lt r0 hsz
  have hmul : IntMulOk (1 * 2 ^ n.toNat - 1) b2 := mulok (i := n.toNat) (j := n.toNat) (by lia) (by lia) h9 h10 (by lia) (by lia)
  generalize (2 : Int) ^ n.toNat = P at *
  have hm : x % P = x - b1 * P := by lia
  have hx : x - b1 * P ≤ b2 - 1 := by lia
  generalize hd : x - b1 * P = d at *
  have e1 : (1 * P - 1) * b2 = P * b2 - b2 := by rw [Int.sub_mul, Int.one_mul, Int.one_mul]
  have e2 : (1 * P - 1) * b = P * b - b := by rw [Int.sub_mul, Int.one_mul, Int.one_mul]
  have e3 : (d + b1) * P = P * d + P * b1 := by rw [Int.add_mul, Int.mul_comm d, Int.mul_comm b1]
  have e4 : P * d ≤ P * b2 - P := by
    have := Int.mul_le_mul_of_nonneg_left hx (Int.le_of_lt hP)
    rw [Int.mul_sub, Int.mul_one] at this; exact this
  have e5 : b1 * P = P * b1 := Int.mul_comm _ _
  have e6 : P * b = P * (P * b1) + P * b2 := by rw [h8, e5, Int.mul_add]
  have e7 : x * P = P * (P * b1) + P * d := by rw [show x = P * b1 + d by lia, Int.mul_comm, Int.mul_add]
  refine ⟨by lia, by lia, by lia, hmul⟩
theorem d3_ne (hok : D3Ok k x y b b1 b2 n) (he : ¬ x / 2 ^ n.toNat = b1) : D2Ok k x b1 n ∧ ∀ q r, q = x / b1 → r = x % b1 →
    Builtin.bitOr (r * 2 ^ n.toNat) y - q * b2 < b ∧ q * b + (Builtin.bitOr (r * 2 ^ n.toNat) y - q * b2) = x * 2 ^ n.toNat + y ∧
    (Builtin.Int.intBits r : Int) + n ≤ 2 ^ 27 ∧ IntMulOk q b2 := by
  obtain ⟨hb0, _, _, _, hb1⟩ := d3_b hok
  obtain ⟨h1, h2, h3, h4, h5, h6, h7, h8, h9, h10, h11, h12⟩ := hok
  have hP := pow_pos' n.toNat
  have hx : x / 2 ^ n.toNat < b1 := by
    have : x / 2 ^ n.toNat < b1 + 1 := Int.ediv_lt_of_lt_mul hP (by rw [Int.add_mul]; lia)
    lia
  have hx2 : x < b1 * 2 ^ n.toNat := by
    have ex := ediv_emod x (2 ^ n.toNat)
    have m1 := Int.emod_lt_of_pos x hP
    have := Int.mul_le_mul_of_nonneg_right (show x / 2 ^ n.toNat ≤ b1 - 1 by lia) (Int.le_of_lt hP)
    rw [Int.sub_mul] at this; lia
  refine ⟨⟨h1, h5, h6, h7, h11, h12, hx2⟩, ?_⟩
  rintro q r rfl rfl
  have r0 := Int.emod_nonneg x (show b1 ≠ 0 by lia)
  have r1 := Int.emod_lt_of_pos x hb1
  have q0 : 0 ≤ x / b1 := Int.ediv_nonneg h1 (by lia)
  have q1 : x / b1 < 2 ^ n.toNat := Int.ediv_lt_of_lt_mul hb1 (by rw [Int.mul_comm]; exact hx2)
  rw [or_pow n.toNat r0 h3 h4]
  have hbit := bits_of_lt r0 (Int.lt_trans r1 h12)
  have hmul : IntMulOk (x / b1) b2 := mulok (i := n.toNat) (j := n.toNat) q0 q1 h9 h10 (by lia) (by lia)
  have ex := ediv_emod x b1
  generalize x / b1 = q at *
  generalize x % b1 = r at *
  generalize (2 : Int) ^ n.toNat = P at *
  have e1 : r * P ≤ b1 * P - P := by
    have := Int.mul_le_mul_of_nonneg_right (show r ≤ b1 - 1 by lia) (Int.le_of_lt hP)
    rw [Int.sub_mul, Int.one_mul] at this; exact this
  have e2 : 0 ≤ q * b2 := Int.mul_nonneg q0 h9
  have e3 : q * b = q * b1 * P + q * b2 := by rw [h8, Int.mul_add, Int.mul_assoc]
  have e4 : x * P = q * b1 * P + r * P := by rw [← Int.add_mul, ← ex]
  exact ⟨by lia, by lia, by lia, hmul⟩
theorem d3_fin {q r q0 r0 A : Int} (hb : 0 < b) (e0 : q * b + r = q0 * b + r0) (e1 : 0 ≤ r) (e2 : r < b) (e3 : q0 * b + r0 = A) : q = A / b ∧ r = A % b := by
  have := @ediv_emod_of A b q r hb (by lia) e1 e2
  exact ⟨this.1.symm, this.2.symm⟩
end
end Mine
end

section
open PySem PySem.W PyProof.Rows PySem.Calls
set_option Elab.async false
set_option maxRecDepth 100000
set_option maxHeartbeats 8000000
namespace Mine
section
variable {w : World} {p : Program} {loose : List Str} {mean : ExcName → Option Value} {mg mb : Str → Option Value}
theorem fillDv3 : ∀ h : Heap, (Mine.hd.heap_39 w.params).In h → PySem.Challenge.rw_xg0080_01 = PySem.Challenge.rw_xg0080_01 := by k_fill; intro _ _; rfl
theorem d3_step (k : Nat) (IH : D2All w p loose mean mg mb k) : D3All w p loose mean mg mb k := by
  intro x y b b1 b2 n t1 t2 t3 t4 t5 t6 hok
  refine' con_of0 ?k6 ?k7 ?kd ?k9 ?kB ?c5 ?c2 ?c3 ?c4 ?_
  case k6 => k_is
  case k7 => k_is
  case kd => omega
  case k9 => exact rfl
  case kB => exact locs rfl
  case c5 => decide
  case c2 => exact rfl
  case c3 => exact rfl
  case c4 => exact rfl
  intro dp un gd outer A₀ base g L' h₁ s Q E B' F' N' X' T' hdp hun _ hret
  (try k_fold)
  repeat' (
    first
    | (k_unfold; (try dsimp only)) | (k_end; wrow_close)
    | ((with_reducible show wpAny _ _ (call (Value.ref _) _ _) _ _ _); (k_here; (with_reducible rename D2All _ _ _ _ _ _ _ => IH); k_dflt (refine' use_d2 IH ?k1 ?k2 ?k3 ?k4 ?k5 ?k6 ?_ ?_; (case k1 => k_asm); (case k2 => k_asm); (case k3 => k_asm); (case k4 => k_asm); (case k5 => k_asm); (case k6 => exact rfl)); rotate_left; intro T' q' r' t1' t2' h' tk' hq' hr' F' N' l1; (try k_lt l1); (try dsimp only); (try k_fold)))
    | ((with_reducible show wpAny _ _ (exec (Stmt.While _ _ _ _) _) _ _ _); (k_here; (with_reducible rename Fr _ _ _ _ => wF); (with_reducible rename News _ _ _ _ => wN); k_dflt (refine' d3_while wF wN ?k1 ?k2 ?k3 ?_ ?_ ?_; (case k1 => exact rfl); (case k2 => exact rfl); (case k3 => exact rfl)); rotate_left; (intro q' r' tq' tr' h' tk' F' N'); rotate_left; (intro q' r' tq' tr' h' tk' e0' e1' e2' F' N'); (try dsimp only); (try k_fold)))
    | walk1 | (dsimp only; walk1) | (leave1; walk_say "STEP leave1"; try dsimp only) | fail "no step")
  all_goals (try assumption)
  all_goals (try (exact ⟨rfl, _, _, _, _, _, rfl, by assumption, by assumption, rfl, rfl, fun y h1 h2 => by simp +zetaDelta [mapQR, h1, h2]⟩))
  all_goals (try (refine hret _ _ _ (Fr.keep (by assumption)) ?_))
  all_goals (try (refine QR.of (by assumption) (List.Mem.head _) ?_ ?_))
  all_goals obtain ⟨c1, c2, c3, c4, c5⟩ := d3_b hok
  all_goals (first | exact ⟨⟨c4, c2⟩⟩ | exact ⟨⟨c4, c3⟩⟩ | exact ⟨c4⟩ | skip)
  all_goals (first
    | (obtain ⟨k1, k2, k3, k4⟩ := d3_eq hok (by assumption); first
        | exact ⟨⟨c1, k1⟩⟩ | exact ⟨⟨c4, k3⟩⟩ | exact ⟨k4⟩ | exact (d3_fin c1 (by assumption) (by assumption) (by assumption) k2).1 | exact (d3_fin c1 (by assumption) (by assumption) (by assumption) k2).2)
    | (obtain ⟨k0, K⟩ := d3_ne hok (by assumption); first
        | exact ⟨⟨k0, by omega, by omega⟩⟩
        | exact ⟨⟨c1, (K _ _ (by assumption) (by assumption)).1⟩⟩ | exact ⟨⟨c4, (K _ _ (by assumption) (by assumption)).2.2.1⟩⟩ | exact ⟨(K _ _ (by assumption) (by assumption)).2.2.2⟩
        | exact (d3_fin c1 (by assumption) (by assumption) (by assumption) (K _ _ (by assumption) (by assumption)).2.1).1 | exact (d3_fin c1 (by assumption) (by assumption) (by assumption) (K _ _ (by assumption) (by assumption)).2.1).2)
    | skip)
theorem d23_all (D : ∀ k, D3Up w p loose mean mg mb k → D2All w p loose mean mg mb k) : ∀ k, D2All w p loose mean mg mb k
  | 0 => D 0 fun j h => by omega
  | k + 1 => D (k + 1) fun j h => by
    have e : k = j := by omega
    subst e
    exact d3_step k (d23_all D k)
end
end Mine
end

section
open PySem PySem.W PyProof.Rows PySem.Calls
set_option Elab.async false
set_option maxRecDepth 100000
namespace Mine
section
variable {w : World} {p : Program} {loose : List Str} {mean : ExcName → Option Value} {mg mb : Str → Option Value}

/-- the body of a def with cells; the objects at W may be changed -/
theorem con_ofC {f : Addr} {vs : List Value} {d u : Nat} {W : List Addr} {Pre : Heap → Prop} {Post : Heap → Value → Heap → Prop}
    {name qual : Str} {params : Arguments} {body : List Stmt} {scope : Scope} {dV kV doc pm cdv ct oc : Value} {an od : Option Addr} {osl : Array (Option Value)} {binds : List (Str × Value)}
    (ho : (Mine.hd.heap_39 w.params).lookup f = some ⟨oc, od, .func (fnOf name qual params body scope dV kV doc pm an cdv ct), osl⟩)
    (hcd : codeIn (Mine.hd.heap_39 w.params) cdv qual = true) (hd1 : 1 ≤ d)
    (hbind : bindArgs (fnOf name qual params body scope dV kV doc pm an cdv ct) ⟨vs, []⟩ = pure binds)
    (hkind : (binds.all fun y => scope.names.lookup y.1 == some .local || scope.names.lookup y.1 == some .cell) = true)
    (hnd : ((cellsFrom 0 scope.names []).map (·.1)).Nodup)
    (hco : scope.isCoroutine = false) (hgen : scope.isGenerator = false) (hk : scope.kind = .function)
    (h : ∀ (dp un : Nat) (gd : Option (List Code)) (outer : List Env) (A₀ : Around) (base H g : Heap) (L' : Addr) (h₁ : Heap) (tk : Nat) (cells : List (Addr × Obj)) (s : Shared) (Q E : Value → Shared → Prop),
      g = hideAll H W → L' = H.objs.size → Below A₀ base outer g → Fr g L' h₁ (bindL (envOfC qual scope L' f cdv).kindOf binds fun _ => none) → News g L' h₁ cells →
      CellsAre (bindC (envOfC qual scope L' f cdv).kindOf binds fun _ => none) (cellsFrom (L' + 1) scope.names []) cells → (∀ b o, H.get? b = some o → h₁.get? b = some o) →
      (Mine.hd.heap_39 w.params).In g → Top p loose mean mg mb g → dp + d ≤ recursionLimit → un + u < cLine + 3 → Pre H →
      (∀ r h' tk', (∀ b o, g.get? b = some o → h'.get? b = some o) → Post H r h' → Q r { s with heap := h', toks := tk' }) →
      wpAny (model PySem.Challenge.rw_xg0080_01.row.prog w) (ktrTop dp un gd qual scope L' f cdv (cellsFrom (L' + 1) scope.names []) outer) (execs body (envOfC qual scope L' f cdv))
        (fun fl s' => Q (match fl with | .ret v => v | _ => .none) s')
        (fun e s' => wpAny (model PySem.Challenge.rw_xg0080_01.row.prog w) (ktrTop dp un gd qual scope L' f cdv (cellsFrom (L' + 1) scope.names []) outer) (leaving (envOfC qual scope L' f cdv) e) (fun _ s'' => E e s'') (fun e' s'' => E e' s'') s')
        { s with heap := h₁, toks := tk }) :
    Con w p loose mean mg mb f vs d u W Pre Post := by
  intro dp un gd cn cs a ccd cl outer A₀ base h₀ L m s Q E B F X T hkk hdp hun hW hpre hret
  refine wpAny_call ?_
  refine call_WC W B F hW T.nolimit rfl rfl hkk ((X.keeps F.keep) _ _ ho) rfl (codeRec_of (X.keeps F.keep) hcd) (by show dp < recursionLimit; omega) (BindsTo.of_eq hbind) (kindsX hkind) hnd (fun g L' h₁ tk cells eg eL st F' N' Y' hk₁ B' => ?_) hco hgen hk
  exact h (dp + 1) (un + 3) gd (envX cn cs L a ccd cl :: outer) _ base s.heap g L' h₁ tk cells s Q E eg eL B' F' N' Y' hk₁ (X.keeps st) (T.keeps st) (by omega) (by omega) hpre
    (fun r h' tk' hk hp => hret r h' tk' (fun b o hb e => hk b o (by rw [eg]; exact hideAll_get _ e hb)) hp)
end
end Mine
end

section
open PySem PySem.W PyProof.Rows PySem.Calls
set_option Elab.async false
set_option maxRecDepth 100000
namespace Mine
section
variable {w : World} {p : Program} {loose : List Str} {mean : ExcName → Option Value} {mg mb : Str → Option Value}

/-- the body of a def that a call has made; the objects at W may be changed -/
theorem con_ofF {f : Addr} {fo : Obj} {vs : List Value} {d u : Nat} {W : List Addr} {Pre : Heap → Prop} {Post : Heap → Value → Heap → Prop}
    {name qual : Str} {params : Arguments} {body : List Stmt} {scope : Scope} {cl : List (Str × Addr)} {dV kV doc pm cdv ct : Value} {an : Option Addr} {binds : List (Str × Value)}
    (hd : fo.data = .func (fnX name qual params body scope cl dV kV doc pm an cdv ct)) (hd1 : 1 ≤ d)
    (ho : ∀ H, Pre H → H.get? f = some fo ∧ H.CodeRec cdv qual)
    (hbind : bindArgs (fnX name qual params body scope cl dV kV doc pm an cdv ct) ⟨vs, []⟩ = pure binds) (hloc : ∀ y ∈ binds, scope.names.lookup y.1 = some .local)
    (hcell : ∀ x ∈ scope.names, x.2 ≠ .cell) (hco : scope.isCoroutine = false) (hgen : scope.isGenerator = false) (hk : scope.kind = .function)
    (h : ∀ (dp un : Nat) (gd : Option (List Code)) (outer : List Env) (A₀ : Around) (base H g : Heap) (L' : Addr) (h₁ : Heap) (s : Shared) (Q E : Value → Shared → Prop),
      g = hideAll H W → L' = H.objs.size → Below A₀ base outer g → Fr g L' h₁ (fun y => binds.reverse.lookup y) → (∀ b o, H.get? b = some o → h₁.get? b = some o) →
      (Mine.hd.heap_39 w.params).In g → Top p loose mean mg mb g → dp + d ≤ recursionLimit → un + u < cLine + 3 → Pre H →
      (∀ r h' tk', (∀ b o, g.get? b = some o → h'.get? b = some o) → Post H r h' → Q r { s with heap := h', toks := tk' }) →
      wpAny (model PySem.Challenge.rw_xg0080_01.row.prog w) (ktrTop dp un gd qual scope L' f cdv cl outer) (execs body (envX qual scope L' f cdv cl))
        (fun fl s' => Q (match fl with | .ret v => v | _ => .none) s')
        (fun e s' => wpAny (model PySem.Challenge.rw_xg0080_01.row.prog w) (ktrTop dp un gd qual scope L' f cdv cl outer) (leaving (envX qual scope L' f cdv cl) e) (fun _ s'' => E e s'') (fun e' s'' => E e' s'') s')
        { s with heap := h₁, toks := s.toks + binds.length }) :
    Con w p loose mean mg mb f vs d u W Pre Post := by
  intro dp un gd cn cs a ccd cl' outer A₀ base h₀ L m s Q E B F X T hkk hdp hun hW hpre hret
  refine wpAny_call ?_
  refine call_W (cl := cl) W B F hW T.nolimit rfl rfl hkk (ho _ hpre).1 hd (ho _ hpre).2 (by show dp < recursionLimit; omega) (BindsTo.of_eq hbind) hloc (fun g L' h₁ eg eL st F' hk₁ B' => ?_) hcell hco hgen hk
  exact h (dp + 1) (un + 3) gd (envX cn cs L a ccd cl' :: outer) _ base s.heap g L' h₁ s Q E eg eL B' F' hk₁ (X.keeps st) (T.keeps st) (by omega) (by omega) hpre
    (fun r h' tk' hk hp => hret r h' tk' (fun b o hb e => hk b o (by rw [eg]; exact hideAll_get _ e hb)) hp)

variable {M : Model} {A : Around} {E : Value → Shared → Prop} {s : Shared} {h₀ : Heap} {L a : Addr} {m : Str → Option Value} {news : List (Addr × Obj)} {cn : Str} {cs : Scope} {ccd : Value} {cl : List (Str × Addr)} {x : Str} {pos : Pos} {v : Value} {Q : Value → Shared → Prop} {c : Addr}
theorem isCell_keeps {h h' : Heap} {c : Addr} {v : Option Value} (x : h.IsCell c v) (k : ∀ b o, h.get? b = some o → h'.get? b = some o) : h'.IsCell c v := let ⟨o, a, b⟩ := x; ⟨o, k _ _ a, b⟩
/-- a captured name, its cell among what is kept -/
theorem g_free (F : Fr h₀ L s.heap m) (hc : cl.lookup x = some c) (hv : h₀.IsCell c (some v)) (h : Q v s)
    (hk : cs.kind = .function) (hx : (envX cn cs L a ccd cl).kindOf x = some .free) (hb : (x == ("__debug__" : Str)) = false) (hn : (x == ("__classdict__" : Str)) = false) :
    wpAny M A (eval (.Name x pos) (envX cn cs L a ccd cl)) Q E s := wpAny_Name (wpAny_loadName_free hk hx hc (isCell_keeps hv F.keep) h hn) hb
theorem news_hidden {H h₁ g : Heap} {W : List Addr} {L' l : Addr} {o : Obj} (eg : g = hideAll H W) (hl : l ∈ W) (eL : L' = H.objs.size) (hk : ∀ b o, H.get? b = some o → h₁.get? b = some o) (e : H.get? l = some o) : News g L' h₁ [(l, o)] := by
  intro p hp
  rw [List.mem_singleton.mp hp]
  exact ⟨hk _ _ e, by rw [eL]; exact Nat.ne_of_lt (Heap.lt_size e), by rw [eg]; exact hideAll_none _ hl⟩
theorem get_hidden {H g : Heap} {W : List Addr} {l : Addr} {o : Obj} (eg : g = hideAll H W) (hl : l ∉ W) (e : H.get? l = some o) : g.get? l = some o := by rw [eg]; exact hideAll_get _ e hl
theorem cell_hidden {H g : Heap} {W : List Addr} {l : Addr} {v : Option Value} (eg : g = hideAll H W) (hl : l ∉ W) (e : H.IsCell l v) : g.IsCell l v := let ⟨o, a, b⟩ := e; ⟨o, get_hidden eg hl a, b⟩
theorem fnAt_keep {q : Addr} {h : Heap} (X : FnAt q h₀) (F : Fr h₀ L h m) : FnAt q h := let ⟨oc, od, fd, sl, e⟩ := X; ⟨oc, od, fd, sl, F.keep _ _ e⟩
end
end Mine
end

section
open PySem PySem.W PyProof.Rows PySem.Calls
set_option Elab.async false
set_option maxRecDepth 100000
namespace Mine
theorem flat_rep (v : Value) : ∀ k : Nat, (List.replicate k #[v]).foldl (fun x1 x2 => x1 ++ x2) #[] = (List.replicate k v).toArray := by
  intro k
  have gen : ∀ (k : Nat) (acc : Array Value), (List.replicate k #[v]).foldl (fun x1 x2 => x1 ++ x2) acc = acc ++ (List.replicate k v).toArray := by
    intro k
    induction k with
    | zero => intro acc; simp
    | succ k ih => intro acc; rw [List.replicate_succ, List.foldl_cons, ih, List.replicate_succ]; apply Array.toList_inj.mp; simp
  rw [gen]; simp
section
variable {prog : Program} {w : World} {A : Around} {E : Value → Shared → Prop} {s : Shared} {h₀ : Heap} {L : Addr} {m : Str → Option Value} {news : List (Addr × Obj)} {Q : Value → Shared → Prop}
theorem ints_rep {x : Int} {t : Tok} : ∀ k, IntsAre (List.replicate k (.int x t)) (List.replicate k x)
  | 0 => .nil
  | k + 1 => .cons _ _ (ints_rep k)
/-- [v] * x -/
theorem g_rep1 {l : Addr} {v : Int} {tv : Tok} {k : Nat} {x : Int} {u : Tok} (F : Fr h₀ L s.heap m) (N : News h₀ L s.heap news) (hm : (l, listOf #[.int v tv] k) ∈ news) (h0 : Owe (0 ≤ x ∧ x ≤ 1000000))
    (h : ∀ l' vs' h', IntsAre vs' (List.replicate x.toNat v) → Fr h₀ L h' m → News h₀ L h' ((l', listOf (List.toArray vs') 0) :: news) → (∀ p ∈ news, p.1 < l') → Q (.ref l') { s with heap := h' }) :
    wpAny (model prog w) A (binaryOp .Mult (.ref l) (.int x u)) Q E s := by
  have hl := (N _ hm).1
  refine mul_list F N hl (by have := h0.out; lia) (by have := h0.out; lia) (by have := h0.out; simp; lia) fun h' F' N' => ?_
  have e : (if (#[Value.int v tv] : Array Value).isEmpty = true then 0 else x.toNat) = x.toNat := by simp
  rw [e, flat_rep] at N'
  exact h _ _ h' (ints_rep _) F' N' fun p hp => Heap.lt_size (N p hp).1
theorem g_len {l : Addr} {vs : List Value} {ns : List Int} {k : Nat} (N : News h₀ L s.heap news) (hm : (l, listOf vs.toArray k) ∈ news) (hI : IntsAre vs ns) (h0 : Owe (ns.length ≤ 1000000))
    (h : Q (.int ns.length (s.toks + 1)) { s with toks := s.toks + 1 + 1 }) : wpAny (model prog w) A (call (.builtin "len") [.ref l]) Q E s := by
  have hl : s.heap.IsList l vs.toArray := ⟨_, (N _ hm).1, rfl, _, rfl⟩
  have e : vs.toArray.size = ns.length := by rw [List.size_toArray]; exact hI.length
  exact call_len_list hl (by rw [e]; have := h0.out; lia) (by rw [e]; exact h)
/-- a list among what is kept -/
theorem g_truthyB {l : Addr} {vs : List Value} {ns : List Int} {Q : Bool → Shared → Prop} (F : Fr h₀ L s.heap m) (hl : h₀.IsList l vs.toArray) (hI : IntsAre vs ns) (h0 : Owe (1 ≤ ns.length ∧ ns.length ≤ 1000000))
    (h : ∀ tk', Q true { s with toks := tk' }) : wpAny (model prog w) A (truthy (.ref l)) Q E s := by
  have hl' : s.heap.IsList l vs.toArray := hl.at fun o e => F.keep _ _ e
  have e : vs.toArray.size = ns.length := by rw [List.size_toArray]; exact hI.length
  have h1 := h0.out
  refine wpAny_truthy_list hl' (by rw [e]; lia) ?_
  have e2 : (!vs.toArray.isEmpty) = true := by
    unfold Array.isEmpty
    rw [e]
    simp only [Bool.not_eq_true', decide_eq_false_iff_not]
    lia
  rw [e2]; exact h _
theorem g_lenB {l : Addr} {vs : List Value} {ns : List Int} (F : Fr h₀ L s.heap m) (hl : h₀.IsList l vs.toArray) (hI : IntsAre vs ns) (h0 : Owe (ns.length ≤ 1000000))
    (h : Q (.int ns.length (s.toks + 1)) { s with toks := s.toks + 1 + 1 }) : wpAny (model prog w) A (call (.builtin "len") [.ref l]) Q E s := by
  have hl' : s.heap.IsList l vs.toArray := hl.at fun o e => F.keep _ _ e
  have e : vs.toArray.size = ns.length := by rw [List.size_toArray]; exact hI.length
  exact call_len_list hl' (by rw [e]; have := h0.out; lia) (by rw [e]; exact h)
end
end Mine
end

section
open PySem PySem.W PyProof.Rows
set_option Elab.async false
set_option linter.unusedVariables false
namespace Mine
/-- k figures of x at the width n, the last one whole -/
def digs (n : Nat) : Nat → Int → List Int
  | 0, _ => []
  | 1, x => [x]
  | k + 2, x => (x % 2 ^ n) :: digs n (k + 1) (x / 2 ^ n)
theorem digs_length (n : Nat) : ∀ k x, (digs n k x).length = k
  | 0, _ => rfl
  | 1, _ => rfl
  | k + 2, x => by rw [digs, List.length_cons, digs_length n (k + 1)]
theorem digs_split (n : Nat) : ∀ (j i : Nat) (x : Int), 0 ≤ x → digs n (j + 1 + (i + 1)) x = digs n (j + 1) (x % 2 ^ (n * (j + 1))) ++ digs n (i + 1) (x / 2 ^ (n * (j + 1)))
  | 0, i, x, hx => by
    have e : 0 + 1 + (i + 1) = i + 2 := by lia
    rw [e, digs]; simp [digs]
  | j + 1, i, x, hx => by
    have e : j + 1 + 1 + (i + 1) = (j + 1 + i) + 2 := by lia
    have e2 : j + 1 + i + 1 = j + 1 + (i + 1) := by lia
    have hp := pow_pos' n
    have hq := pow_pos' (n * (j + 1))
    rw [e, digs, e2, digs_split n j i (x / 2 ^ n) (Int.ediv_nonneg hx (Int.le_of_lt hp)), digs]
    have e3 : n * (j + 1 + 1) = n + n * (j + 1) := by rw [Nat.mul_add]; lia
    rw [e3, Int.pow_add]
    have h1 : x % (2 ^ n * 2 ^ (n * (j + 1))) % 2 ^ n = x % 2 ^ n := Int.emod_emod_of_dvd _ ⟨_, rfl⟩
    have h2 : x / (2 ^ n * 2 ^ (n * (j + 1))) = x / 2 ^ n / 2 ^ (n * (j + 1)) := by rw [Int.ediv_ediv_of_nonneg (Int.le_of_lt hp)]
    have h3 : x % (2 ^ n * 2 ^ (n * (j + 1))) / 2 ^ n = x / 2 ^ n % 2 ^ (n * (j + 1)) := by
      have ea := ediv_emod x (2 ^ n)
      have eb := ediv_emod (x / 2 ^ n) (2 ^ (n * (j + 1)))
      have r0 := Int.emod_nonneg x (show (2 : Int) ^ n ≠ 0 by lia)
      have r1 := Int.emod_lt_of_pos x hp
      have s0 := Int.emod_nonneg (x / 2 ^ n) (show (2 : Int) ^ (n * (j + 1)) ≠ 0 by lia)
      have s1 := Int.emod_lt_of_pos (x / 2 ^ n) hq
      have key : x % (2 ^ n * 2 ^ (n * (j + 1))) = (x / 2 ^ n % 2 ^ (n * (j + 1))) * 2 ^ n + x % 2 ^ n := by
        refine (ediv_emod_of (q := x / 2 ^ n / 2 ^ (n * (j + 1))) (Int.mul_pos hp hq) ?_ ?_ ?_).2
        · generalize (2 : Int) ^ n = P at *
          generalize (2 : Int) ^ (n * (j + 1)) = S at *
          have : x / P * P = x / P / S * (P * S) + x / P % S * P := by
            rw [Int.mul_comm P S, ← Int.mul_assoc, ← Int.add_mul, ← eb]
          lia
        · have := Int.mul_nonneg s0 (Int.le_of_lt hp); lia
        · generalize (2 : Int) ^ n = P at *
          generalize (2 : Int) ^ (n * (j + 1)) = S at *
          have := Int.mul_le_mul_of_nonneg_right (show x / P % S ≤ S - 1 by lia) (Int.le_of_lt hp)
          rw [Int.sub_mul, Int.one_mul, Int.mul_comm S P] at this; lia
      rw [key]
      exact (ediv_emod_of hp rfl r0 r1).1
    rw [h1, h2, h3]
    rfl
theorem and_shl {x : Int} (k : Nat) (hx : 0 ≤ x) : Builtin.bitAnd x (x / 2 ^ k * 2 ^ k) = x / 2 ^ k * 2 ^ k := by
  obtain ⟨a, rfl⟩ := Int.eq_ofNat_of_zero_le hx
  have e : (a : Int) / 2 ^ k * 2 ^ k = ((2 ^ k * (a / 2 ^ k) : Nat) : Int) := by
    rw [Int.natCast_mul, kbt_cast, Int.natCast_ediv, kbt_cast, Int.mul_comm]
  rw [e]
  have hr : a % 2 ^ k < 2 ^ k := Nat.mod_lt _ (Nat.pow_pos (by decide))
  have h1 := Nat.two_pow_add_eq_or_of_lt hr (a / 2 ^ k)
  have h2 : 2 ^ k * (a / 2 ^ k) + a % 2 ^ k = a := Nat.div_add_mod a (2 ^ k)
  have h3 : a &&& (2 ^ k * (a / 2 ^ k)) = 2 ^ k * (a / 2 ^ k) := by
    have : a = 2 ^ k * (a / 2 ^ k) ||| a % 2 ^ k := by rw [← h1, h2]
    generalize 2 ^ k * (a / 2 ^ k) = z at this ⊢
    rw [this]
    apply Nat.eq_of_testBit_eq
    intro i
    simp only [Nat.testBit_and, Nat.testBit_or]
    cases z.testBit i <;> simp
  rw [bitAnd_pp (by lia) (by lia), Int.toNat_natCast, Int.toNat_natCast, h3]
theorem xor_shl {x : Int} (k : Nat) (hx : 0 ≤ x) : Builtin.bitXor x (x / 2 ^ k * 2 ^ k) = x % 2 ^ k := by
  rw [bitXor_and, and_shl k hx]
  have := ediv_emod x (2 ^ k)
  lia
/-- the list behind inner(x, L, R) -/
def spliced' (ns : List Int) (l r : Nat) (ds : List Int) : List Int := ns.take l ++ ds ++ ns.drop r
theorem spliced_length {ns ds : List Int} {l r : Nat} (h1 : l ≤ r) (h2 : r ≤ ns.length) (h3 : ds.length = r - l) : (spliced' ns l r ds).length = ns.length := by
  simp only [spliced', List.length_append, List.length_take, List.length_drop]; lia
theorem spliced_one {ns : List Int} {l : Nat} {x : Int} (h : l < ns.length) : ns.set l x = spliced' ns l (l + 1) [x] := by
  rw [List.set_eq_take_append_cons_drop, if_pos h]; simp [spliced']
theorem spliced_two {ns a b : List Int} {l mid r : Nat} (h1 : l ≤ mid) (h2 : mid ≤ r) (h3 : r ≤ ns.length) (ha : a.length = mid - l) :
    spliced' (spliced' ns l mid a) mid r b = spliced' ns l r (a ++ b) := by
  have e1 : (ns.take l ++ a).length = mid := by rw [List.length_append, List.length_take]; lia
  unfold spliced'
  rw [List.take_left' e1]
  have e2 : (ns.take l ++ a ++ ns.drop mid).drop r = ns.drop r := by
    rw [List.drop_append, List.drop_eq_nil_of_le (by lia), List.nil_append, List.drop_drop, e1]
    congr 1; lia
  rw [e2, List.append_assoc (ns.take l) a b]
end Mine
end

section
open PySem PySem.W PyProof.Rows PySem.Calls
set_option Elab.async false
set_option maxRecDepth 100000
namespace Mine
theorem lit_of {K : Frag} {a : Addr} {o o' : Obj} {G : Prop} (e : K.lookup a = some o) (e' : K.lookup a = some o') (h : o = o' → G) : G := h (Option.some.inj (e.symm.trans e'))
/-- a made def that fills a list through cells -/
structure InCtx where
  fo : Obj
  f : Addr
  l : Addr
  cA : Addr
  cI : Addr
  cN : Addr
  cd : Value
  qual : Str
  n : Nat
def InFix (c : InCtx) (h : Heap) : Prop := (h.get? c.f = some c.fo ∧ h.CodeRec c.cd c.qual) ∧ h.IsCell c.cA (some (.ref c.l)) ∧ h.IsCell c.cI (some (.ref c.f)) ∧ ∃ tn, h.IsCell c.cN (some (.int c.n tn))
theorem codeRec_keeps {h h' : Heap} {cd : Value} {q : Str} (x : h.CodeRec cd q) (k : ∀ b o, h.get? b = some o → h'.get? b = some o) : h'.CodeRec cd q := x.keeps k
theorem InFix.keeps {c : InCtx} {h h' : Heap} (x : InFix c h) (k : ∀ b o, h.get? b = some o → h'.get? b = some o) : InFix c h' :=
  ⟨⟨k _ _ x.1.1, x.1.2.keeps k⟩, isCell_keeps x.2.1 k, isCell_keeps x.2.2.1 k, let ⟨t, a⟩ := x.2.2.2; ⟨t, isCell_keeps a k⟩⟩
def ListAt (l : Addr) (ns : List Int) (h : Heap) : Prop := ∃ its ep, h.get? l = some (listOf (List.toArray its) ep) ∧ IntsAre its ns
theorem InFix.hidden {c : InCtx} {H g : Heap} {ns : List Int} (x : InFix c H) (hl : ListAt c.l ns H) (hf : ∃ fd, c.fo.data = .func fd) (eg : g = hideAll H [c.l]) : InFix c g := by
  obtain ⟨its, ep, e, _⟩ := hl
  obtain ⟨fd, hfd⟩ := hf
  have ne : ∀ b o, H.get? b = some o → (∀ xs n, o.data ≠ .seq xs n) → b ∉ [c.l] := fun b o eb hd hm => by
    rw [List.mem_singleton.mp hm, e] at eb
    cases eb; exact hd _ _ rfl
  have cell : ∀ {b v}, H.IsCell b v → g.IsCell b v := fun {b v} ⟨o, a, d⟩ => ⟨o, get_hidden eg (ne _ _ a (by rw [d]; nofun)) a, d⟩
  obtain ⟨⟨x1, a, o, vs, t, x2, x3, x4, x5⟩, x6, x7, tn, x8⟩ := x
  exact ⟨⟨get_hidden eg (ne _ _ x1 (by rw [hfd]; nofun)) x1, a, o, vs, t, x2, get_hidden eg (ne _ _ x3 (by rw [x4]; nofun)) x3, x4, x5⟩, cell x6, cell x7, tn, cell x8⟩
def InOk (c : InCtx) (k : Nat) (x lx rx : Int) (ns : List Int) : Prop :=
  0 ≤ lx ∧ lx < rx ∧ rx ≤ ns.length ∧ rx - lx ≤ 2 ^ k ∧ ns.length ≤ 1000 ∧ 0 ≤ x ∧ Builtin.Int.intBits x ≤ 1000000 ∧ 1 ≤ c.n ∧ c.n ≤ 10000
def InnerC (w : World) (p : Program) (loose : List Str) (mean : ExcName → Option Value) (mg mb : Str → Option Value) (c : InCtx) (k : Nat) : Prop :=
  ∀ (x lx rx : Int) (t1 t2 t3 : Tok) (ns : List Int), InOk c k x lx rx ns →
    Con w p loose mean mg mb c.f [.int x t1, .int lx t2, .int rx t3] (k + 1) (16 * (k + 1)) [c.l] (fun H => InFix c H ∧ ListAt c.l ns H)
      (fun _ r h' => r = .none ∧ ListAt c.l (spliced' ns lx.toNat rx.toNat (digs c.n (rx.toNat - lx.toNat) x)) h')
/-- the level below -/
def InnerUp (w : World) (p : Program) (loose : List Str) (mean : ExcName → Option Value) (mg mb : Str → Option Value) (c : InCtx) (k : Nat) : Prop := ∀ j, k = j + 1 → InnerC w p loose mean mg mb c j
section
variable {w : World} {p : Program} {loose : List Str} {mean : ExcName → Option Value} {mg mb : Str → Option Value}
  {dp un : Nat} {gd : Option (List Code)} {cn : Str} {cs : Scope} {ad : Addr} {ccd : Value} {cl : List (Str × Addr)} {outer : List Env} {A₀ : Around} {base h₀ : Heap} {L : Addr} {m : Str → Option Value} {news : List (Addr × Obj)} {s : Shared} {Q E : Value → Shared → Prop} {c : InCtx} {k : Nat}
theorem use_innerC {x lx rx : Int} {t1 t2 t3 : Tok} {its : List Value} {ep : Nat} {ns : List Int} (I : InnerC w p loose mean mg mb c k) (B : Below A₀ base outer h₀) (F : Fr h₀ L s.heap m) (X : (Mine.hd.heap_39 w.params).In h₀) (T : Top p loose mean mg mb h₀) (hk : cs.kind = .function)
    (N : News h₀ L s.heap ((c.l, listOf (List.toArray its) ep) :: news)) (hn : ∀ p ∈ news, p.1 ≠ c.l) (hI : IntsAre its ns) (G : InFix c s.heap)
    (h0 : Owe (InOk c k x lx rx ns ∧ dp + (k + 1) < recursionLimit ∧ un + 16 * (k + 1) < cLine))
    (h : ∀ its' ep' h' tk', Fr h₀ L h' m → News h₀ L h' ((c.l, listOf (List.toArray its') ep') :: news) → IntsAre its' (spliced' ns lx.toNat rx.toNat (digs c.n (rx.toNat - lx.toNat) x)) → Q .none { s with heap := h', toks := tk' }) :
    wpAny (model PySem.Challenge.rw_xg0080_01.row.prog w) (ktrTop dp un gd cn cs L ad ccd cl outer) (call (.ref c.f) [.int x t1, .int lx t2, .int rx t3]) Q E s := by
  obtain ⟨o1, o2, o3⟩ := h0.out
  have hl := N (c.l, listOf (List.toArray its) ep) (.head _)
  refine I x lx rx t1 t2 t3 ns o1 dp un gd cn cs ad ccd cl outer A₀ base h₀ L m s Q E B F X T hk o2 o3 (fun b hb => by rw [List.mem_singleton.mp hb]; exact ⟨hl.2.2, hl.2.1⟩) ⟨G, its, ep, hl.1, hI⟩ fun v h' tk' hkeep hp => ?_
  obtain ⟨rfl, its', ep', e1, e2⟩ := hp
  have kp : ∀ b o, b ≠ c.l → s.heap.get? b = some o → h'.get? b = some o := fun b o hb e => hkeep b o (fun q => hb (List.mem_singleton.mp q)) e
  obtain ⟨oL, es, e', hL, r⟩ := F.ns
  refine h its' ep' h' tk' ⟨⟨oL, es, e', kp _ _ (fun q => hl.2.1 q.symm) hL, r⟩, fun b o e => kp b o (fun q => by rw [q, hl.2.2] at e; cases e) (F.keep b o e), F.above⟩ (fun q hq => ?_) e2
  rcases List.mem_cons.mp hq with rfl | hq
  · exact ⟨e1, hl.2⟩
  · exact ⟨kp _ _ (hn q hq) (N q (.tail _ hq)).1, (N q (.tail _ hq)).2⟩
theorem use_inner {f : Addr} {x lx rx : Int} {t1 t2 t3 : Tok} {its : List Value} {ep : Nat} {ns : List Int} (I : InnerUp w p loose mean mg mb c k) (hf : f = c.f) (B : Below A₀ base outer h₀) (F : Fr h₀ L s.heap m) (X : (Mine.hd.heap_39 w.params).In h₀) (T : Top p loose mean mg mb h₀) (hk : cs.kind = .function)
    (N : News h₀ L s.heap [(c.l, listOf (List.toArray its) ep)]) (hI : IntsAre its ns) (G : InFix c h₀)
    (h0 : Owe (∃ j, k = j + 1 ∧ InOk c j x lx rx ns ∧ dp + (j + 1) < recursionLimit ∧ un + 16 * (j + 1) < cLine))
    (h : ∀ its' ep' h' tk', Fr h₀ L h' m → News h₀ L h' [(c.l, listOf (List.toArray its') ep')] → IntsAre its' (spliced' ns lx.toNat rx.toNat (digs c.n (rx.toNat - lx.toNat) x)) → Q .none { s with heap := h', toks := tk' }) :
    wpAny (model PySem.Challenge.rw_xg0080_01.row.prog w) (ktrTop dp un gd cn cs L ad ccd cl outer) (call (.ref f) [.int x t1, .int lx t2, .int rx t3]) Q E s := by
  obtain ⟨j, rfl, o1, o2, o3⟩ := h0.out
  subst hf
  exact use_innerC (I j rfl) B F X T hk N (fun _ h => nomatch h) hI (G.keeps F.keep) ⟨⟨o1, o2, o3⟩⟩ h
theorem con_useU {f : Addr} {vs : List Value} {d u : Nat} {l : Addr} {o : Obj} {gg : Obj → List (Addr × Obj)} {Pre : Heap → Prop} {Post : Heap → Value → Heap → Prop} (C : Con w p loose mean mg mb f vs d u [l] Pre Post)
    (B : Below A₀ base outer h₀) (F : Fr h₀ L s.heap m) (X : (Mine.hd.heap_39 w.params).In h₀) (T : Top p loose mean mg mb h₀) (hk : cs.kind = .function) (hd : dp + d < recursionLimit) (hu : un + u < cLine)
    (N : News h₀ L s.heap news) (U : UpdF l o news gg) (hpre : Pre s.heap) (hex : ∀ r h', Post s.heap r h' → ∃ o', h'.get? l = some o')
    (h : ∀ r o' h' tk', (∀ b o, b ≠ l → s.heap.get? b = some o → h'.get? b = some o) → h'.get? l = some o' → Post s.heap r h' → Fr h₀ L h' m → News h₀ L h' (gg o') → Q r { s with heap := h', toks := tk' }) :
    wpAny (model PySem.Challenge.rw_xg0080_01.row.prog w) (ktrTop dp un gd cn cs L ad ccd cl outer) (call (.ref f) vs) Q E s := by
  obtain ⟨own, rest, e, hg, h1, h2⟩ := U.split
  subst e
  have hl := N (l, o) (List.mem_append_right _ (.head _))
  refine C dp un gd cn cs ad ccd cl outer A₀ base h₀ L m s Q E B F X T hk hd hu (fun b hb => by rw [List.mem_singleton.mp hb]; exact ⟨hl.2.2, hl.2.1⟩) hpre fun r h' tk' hkeep hp => ?_
  obtain ⟨o', e1⟩ := hex r h' hp
  have kp : ∀ b o, b ≠ l → s.heap.get? b = some o → h'.get? b = some o := fun b o hb e => hkeep b o (fun q => hb (List.mem_singleton.mp q)) e
  obtain ⟨oL, es, e', hL, rr⟩ := F.ns
  refine h r o' h' tk' kp e1 hp ⟨⟨oL, es, e', kp _ _ (fun q => hl.2.1 q.symm) hL, rr⟩, fun b o e => kp b o (fun q => by rw [q, hl.2.2] at e; cases e) (F.keep b o e), F.above⟩ fun q hq => ?_
  rw [hg] at hq
  rcases List.mem_append.mp hq with hq | hq
  · have n := N q (List.mem_append_left _ hq); exact ⟨kp _ _ (h1 q hq) n.1, n.2⟩
  · rcases List.mem_cons.mp hq with rfl | hq
    · exact ⟨e1, hl.2⟩
    · have n := N q (List.mem_append_right _ (.tail _ hq)); exact ⟨kp _ _ (h2 q hq) n.1, n.2⟩
theorem use_innerU {x lx rx : Int} {t1 t2 t3 : Tok} {its : List Value} {ep : Nat} {ns : List Int} {gg : Obj → List (Addr × Obj)} (I : Owe (∀ k, InnerC w p loose mean mg mb c k)) (B : Below A₀ base outer h₀) (F : Fr h₀ L s.heap m) (X : (Mine.hd.heap_39 w.params).In h₀) (T : Top p loose mean mg mb h₀) (hk : cs.kind = .function)
    (N : News h₀ L s.heap news) (U : UpdF c.l (listOf (List.toArray its) ep) news gg) (hI : IntsAre its ns) (G : InFix c s.heap)
    (h0 : Owe (∃ k, InOk c k x lx rx ns ∧ dp + (k + 1) < recursionLimit ∧ un + 16 * (k + 1) < cLine))
    (h : ∀ its' ep' h' tk', Fr h₀ L h' m → News h₀ L h' (gg (listOf (List.toArray its') ep')) → IntsAre its' (spliced' ns lx.toNat rx.toNat (digs c.n (rx.toNat - lx.toNat) x)) → Q .none { s with heap := h', toks := tk' }) :
    wpAny (model PySem.Challenge.rw_xg0080_01.row.prog w) (ktrTop dp un gd cn cs L ad ccd cl outer) (call (.ref c.f) [.int x t1, .int lx t2, .int rx t3]) Q E s := by
  obtain ⟨k, o1, o2, o3⟩ := h0.out
  have hl : s.heap.get? c.l = some (listOf (List.toArray its) ep) := by
    obtain ⟨own, rest, e, _⟩ := U.split
    subst e
    exact (N (c.l, listOf (List.toArray its) ep) (List.mem_append_right _ (.head _))).1
  refine con_useU (I.out k x lx rx t1 t2 t3 ns o1) B F X T hk o2 o3 N U ⟨G, its, ep, hl, hI⟩ (fun r h' ⟨_, its', ep', e, _⟩ => ⟨_, e⟩) fun r o' h' tk' _ e1 hp F' N' => ?_
  obtain ⟨rfl, its', ep', e2, e3⟩ := hp
  rw [e2] at e1
  cases e1
  exact h its' ep' h' tk' F' N' e3
theorem inFix_news (xA xI xN : Str) {fo oA oI oN oc : Obj} {fd : FuncData} {f l cA cI cN c' : Addr} {vs : Array Value} {q : Str} {t tn : Tok} {n : Nat} {h : Heap} (N : News h₀ L h news) (hf : (f, fo) ∈ news) (_e : fo.data = .func fd) (_ec : fd.code = .ref c')
    (_eA : fd.closure.lookup xA = some cA) (_eI : fd.closure.lookup xI = some cI) (_eN : fd.closure.lookup xN = some cN) (hc : (c', oc) ∈ news) (d1 : oc.data = .fields vs) (d2 : vs[1]? = some (.str q t))
    (hA : (cA, oA) ∈ news) (dA : oA.data = .cell (some (.ref l))) (hI : (cI, oI) ∈ news) (dI : oI.data = .cell (some (.ref f))) (hN : (cN, oN) ∈ news) (dN : oN.data = .cell (some (.int n tn))) : InFix ⟨fo, f, l, cA, cI, cN, .ref c', q, n⟩ h :=
  ⟨⟨(N _ hf).1, c', oc, vs, t, rfl, (N _ hc).1, d1, d2⟩, ⟨_, (N _ hA).1, dA⟩, ⟨_, (N _ hI).1, dI⟩, tn, _, (N _ hN).1, dN⟩
theorem inFix_news' (xA xI xN : Str) {fo oA oI oN : Obj} {fd : FuncData} {f l cA cI cN : Addr} {cd : Value} {q : Str} {tn : Tok} {n : Nat} {h : Heap} (F : Fr h₀ L h m) (N : News h₀ L h news) (hf : (f, fo) ∈ news) (_e : fo.data = .func fd) (_ec : fd.code = cd)
    (_eA : fd.closure.lookup xA = some cA) (_eI : fd.closure.lookup xI = some cI) (_eN : fd.closure.lookup xN = some cN) (hc : h₀.CodeRec cd q)
    (hA : (cA, oA) ∈ news) (dA : oA.data = .cell (some (.ref l))) (hI : (cI, oI) ∈ news) (dI : oI.data = .cell (some (.ref f))) (hN : (cN, oN) ∈ news) (dN : oN.data = .cell (some (.int n tn))) : InFix ⟨fo, f, l, cA, cI, cN, cd, q, n⟩ h :=
  ⟨⟨(N _ hf).1, hc.keeps F.keep⟩, ⟨_, (N _ hA).1, dA⟩, ⟨_, (N _ hI).1, dI⟩, tn, _, (N _ hN).1, dN⟩
theorem inner_all (D : ∀ k, InnerUp w p loose mean mg mb c k → InnerC w p loose mean mg mb c k) : ∀ k, InnerC w p loose mean mg mb c k
  | 0 => D 0 fun j h => by lia
  | k + 1 => D (k + 1) fun j h => by
    have e : k = j := by lia
    subst e
    exact inner_all D k
end
end Mine
end

section
open PySem PySem.W PyProof.Rows
set_option Elab.async false
set_option linter.unusedVariables false
namespace Mine
section
variable {c : InCtx} {k : Nat} {x lx rx : Int} {ns : List Int}
theorem bits_mono {x y : Int} {k : Nat} (h0 : 0 ≤ x) (h : x ≤ y) (hy : Builtin.Int.intBits y ≤ k) : Builtin.Int.intBits x ≤ k := bits_of_lt h0 (Int.lt_of_le_of_lt h (lt_of_bits (by lia) hy))
theorem in_leaf (h : InOk c k x lx rx ns) (e : lx + 1 = rx) : ns.set lx.toNat x = spliced' ns lx.toNat rx.toNat (digs c.n (rx.toNat - lx.toNat) x) := by
  obtain ⟨i1, i2, i3, i4, i5, i6, i7, i8, i9⟩ := h
  have e1 : rx.toNat = lx.toNat + 1 := by lia
  have e2 : rx.toNat - lx.toNat = 1 := by lia
  rw [e2, e1, spliced_one (by lia)]
  rfl
theorem in_step (h : InOk c k x lx rx ns) (e : ¬ lx + 1 = rx) (mid S U V : Int) (em : mid = (lx + rx) / 2 ^ Int.toNat 1) (eS : S = (mid - lx) * (c.n : Int)) (eU : U = x / 2 ^ S.toNat) (eV : V = Builtin.bitXor x (U * 2 ^ S.toNat)) :
    0 ≤ S ∧ (Builtin.Int.intBits U : Int) + S ≤ 2 ^ 27 ∧ IntMulOk (mid - lx) c.n ∧ ∃ j, k = j + 1 ∧ InOk c j V lx mid ns ∧
      InOk c j U mid rx (spliced' ns lx.toNat mid.toNat (digs c.n (mid.toNat - lx.toNat) V)) ∧
      spliced' (spliced' ns lx.toNat mid.toNat (digs c.n (mid.toNat - lx.toNat) V)) mid.toNat rx.toNat (digs c.n (rx.toNat - mid.toNat) U) = spliced' ns lx.toNat rx.toNat (digs c.n (rx.toNat - lx.toNat) x) := by
  obtain ⟨i1, i2, i3, i4, i5, i6, i7, i8, i9⟩ := h
  rw [p21] at em
  have hk : ∃ j, k = j + 1 := by
    cases k with
    | zero => exfalso; simp at i4; clear em eS eU eV; lia
    | succ j => exact ⟨j, rfl⟩
  obtain ⟨j, rfl⟩ := hk
  rw [Int.pow_succ] at i4
  obtain ⟨u1, u2, u3, u4⟩ := mids i2 e em i4
  obtain ⟨v1, v2, m3, v4⟩ := natz i1 u1 u2
  have i3' := toNat_le_of i3
  have g3 : rx - lx ≤ 1000 := Int.le_trans (Int.sub_le_self _ i1) (Int.le_trans i3 (Int.ofNat_le.mpr i5))
  have g1 : mid - lx ≤ 1000 := Int.le_trans (Int.sub_le_sub_right (Int.le_of_lt u2) lx) g3
  have g0 : 0 ≤ mid - lx := Int.sub_nonneg_of_le (Int.le_of_lt u1)
  have g2 : (0 : Int) ≤ (c.n : Int) := Int.natCast_nonneg _
  clear em e i4 i2 g3
  have hS0 : 0 ≤ S := by rw [eS]; exact Int.mul_nonneg g0 g2
  have hS1 : S ≤ 10000000 := by
    rw [eS]
    have h1 := Int.mul_le_mul_of_nonneg_right g1 g2
    clear u1 u2 u3 u4 v1 v2 m3 v4
    lia
  have hp := pow_pos' S.toNat
  have hU0 : 0 ≤ U := by rw [eU]; exact Int.ediv_nonneg i6 (Int.le_of_lt hp)
  have hUx : U ≤ x := by
    rw [eU]; exact Int.ediv_le_self _ i6
  have hV : V = x % 2 ^ S.toNat := by rw [eV, eU, xor_shl _ i6]
  have hV0 : 0 ≤ V := by rw [hV]; exact Int.emod_nonneg _ (Int.ne_of_gt hp)
  have hVx : V ≤ x := by
    have := ediv_emod x (2 ^ S.toNat)
    have h2 := Int.mul_nonneg (show 0 ≤ x / 2 ^ S.toNat from Int.ediv_nonneg i6 (Int.le_of_lt hp)) (Int.le_of_lt hp)
    clear u1 u2 u3 u4 v1 v2 m3 v4 hS0 hS1 g0 g1 g2
    lia
  have hbits := bits_mono hU0 hUx i7
  have hB : (Builtin.Int.intBits U : Int) + S ≤ 2 ^ 27 := by clear u1 u2 u3 u4 v1 v2 m3 v4 hVx hV0 hV hUx hU0 hp; lia
  have m1 : mid.toNat - lx.toNat = (mid.toNat - lx.toNat - 1) + 1 := sub_one_add v1
  have m2 : rx.toNat - mid.toNat = (rx.toNat - mid.toNat - 1) + 1 := sub_one_add v2
  have hlen : (digs c.n (mid.toNat - lx.toNat) V).length = mid.toNat - lx.toNat := digs_length _ _ _
  have hST : S.toNat = c.n * (mid.toNat - lx.toNat - 1 + 1) := by
    rw [← m1]
    have : ((c.n * (mid.toNat - lx.toNat) : Nat) : Int) = S := by
      rw [Int.natCast_mul, Int.mul_comm, eS, v4]
    rw [← this, Int.toNat_natCast]
  have w1 := Nat.le_of_lt v1
  have w2 := Nat.le_of_lt v2
  have w3 := Nat.le_trans w2 i3'
  have hsl : (spliced' ns lx.toNat mid.toNat (digs c.n (mid.toNat - lx.toNat) V)).length = ns.length := spliced_length w1 w3 hlen
  refine ⟨hS0, hB, ?_, j, rfl, ⟨i1, u1, Int.le_trans (Int.le_of_lt u2) i3, u3, i5, hV0, bits_mono hV0 hVx i7, i8, i9⟩, ⟨Int.le_of_lt (Int.lt_of_le_of_lt i1 u1), u2, ?_, u4, ?_, hU0, bits_mono hU0 hUx i7, i8, i9⟩, ?_⟩
  · exact IntMulOk.of_right (intBits_le_64 (Int.lt_of_lt_of_le (by decide) g2) (Int.lt_of_le_of_lt (Int.ofNat_le.mpr i9) (by decide)))
  · rw [hsl]; exact i3
  · rw [hsl]; exact i5
  · have ds := digs_split c.n (mid.toNat - lx.toNat - 1) (rx.toNat - mid.toNat - 1) x i6
    rw [← hST, ← hV, ← eU, ← m1, ← m2] at ds
    rw [spliced_two w1 w2 i3' hlen, m3, ds]
end
end Mine
end

section
open PySem PySem.W PyProof.Rows
set_option Elab.async false
set_option linter.unusedVariables false
namespace Mine
/-- a code's table: bare, or with the made def's code -/
def Tab (P : Addr) (line col : Int) (qual : Str) (h : Heap) : Prop :=
  ∃ ps : Array Value, h.get? P = some (tabObj ps) ∧ (ps = #[] ∨ ∃ c', ps = #[rawInt line, rawInt col, .ref c'] ∧ h.CodeRec (.ref c') qual)
abbrev q73 : Str := Str.ofString "_int2digits.<locals>.inner"
/-- how many figures -/
def nd (a : Int) (n : Nat) : Nat := (((Builtin.Int.intBits a : Int) + n - 1) / n).toNat
theorem nd_pos {a : Int} {n : Nat} (ha : 0 < a) (hn : 1 ≤ n) : 1 ≤ nd a n ∧ 0 ≤ ((Builtin.Int.intBits a : Int) + n - 1) / n := by
  have hb : 1 ≤ Builtin.Int.intBits a := by
    rcases Nat.eq_zero_or_pos (Builtin.Int.intBits a) with h | h
    · have := natAbs_lt_pow_bits a; rw [h] at this; simp at this; lia
    · exact h
  have : 1 ≤ ((Builtin.Int.intBits a : Int) + n - 1) / n := Int.le_ediv_of_mul_le (by lia) (by lia)
  unfold nd
  lia
def I2Ok (a : Int) (n : Nat) : Prop := 0 < a ∧ 1 ≤ n ∧ n ≤ 10000 ∧ Builtin.Int.intBits a ≤ 1000000 ∧ nd a n ≤ 64
theorem i2_facts {a : Int} {n : Nat} (h : I2Ok a n) {c : InCtx} (hc : c.n = n) :
    (0 ≤ ((Builtin.Int.intBits a : Int) + n - 1) / n ∧ ((Builtin.Int.intBits a : Int) + n - 1) / n ≤ 1000000) ∧ Builtin.divisionGoesByPylong ((Builtin.Int.intBits a : Int) + n - 1) n = false ∧ (0 : Int) < n ∧
    (List.replicate (((Builtin.Int.intBits a : Int) + n - 1) / n).toNat (0 : Int)).length ≤ 1000000 ∧
    InOk c 6 a 0 ((List.replicate (((Builtin.Int.intBits a : Int) + n - 1) / n).toNat (0 : Int)).length : Int) (List.replicate (((Builtin.Int.intBits a : Int) + n - 1) / n).toNat (0 : Int)) ∧
    spliced' (List.replicate (((Builtin.Int.intBits a : Int) + n - 1) / n).toNat (0 : Int)) (Int.toNat 0) (((List.replicate (((Builtin.Int.intBits a : Int) + n - 1) / n).toNat (0 : Int)).length : Int).toNat)
      (digs c.n ((((List.replicate (((Builtin.Int.intBits a : Int) + n - 1) / n).toNat (0 : Int)).length : Int).toNat) - Int.toNat 0) a) = digs n (nd a n) a := by
  obtain ⟨h1, h2, h3, h4, h5⟩ := h
  obtain ⟨h6, h7⟩ := nd_pos h1 h2
  have e : (((Builtin.Int.intBits a : Int) + n - 1) / n).toNat = nd a n := rfl
  rw [e]
  simp only [List.length_replicate]
  have hn : (0 : Int) < n := by lia
  refine ⟨⟨h7, by lia⟩, PyProof.noPylong_small (by lia), hn, by lia, ⟨by lia, by lia, by simp, by simp; lia, by simp; lia, by lia, h4, by lia, by lia⟩, ?_⟩
  rw [hc]
  simp [spliced']
theorem codeRec_tab {H g : Heap} {P c' : Addr} {x y : Int} {v : Value} {q : Str} (x0 : H.CodeRec (.ref c') q) (hP : H.get? P = some (tabObj #[rawInt x, rawInt y, v])) (eg : g = hideAll H [P]) : g.CodeRec (.ref c') q := by
  obtain ⟨a, o, vs, t, x2, x3, x4, x5⟩ := x0
  cases x2
  refine ⟨_, o, vs, t, rfl, ?_, x4, x5⟩
  rw [eg]
  refine hideAll_get _ x3 fun hm => ?_
  rw [List.mem_singleton.mp hm, hP] at x3
  cases x3
  cases x4
  simp [rawInt] at x5
/-- what becomes of the table: the made def's code is laid in, or stays -/
def TabPost (P : Addr) (line col : Int) (q : Str) (H h' : Heap) : Prop :=
  (H.get? P = some (tabObj #[]) → ∃ (c' : Addr) (oc : Obj) (vs : Array Value) (t : Tok), H.get? c' = none ∧ h'.get? c' = some oc ∧ oc.data = .fields vs ∧ vs[1]? = some (.str q t) ∧ h'.get? P = some (tabObj #[rawInt line, rawInt col, .ref c'])) ∧
  ∀ c', H.get? P = some (tabObj #[rawInt line, rawInt col, .ref c']) → h'.get? P = some (tabObj #[rawInt line, rawInt col, .ref c'])
theorem fresh_hidden {H g : Heap} {P l : Addr} (eg : g = hideAll H [P]) (h : g.get? l = none) (hne : l ≠ P) : H.get? l = none := by
  cases e : H.get? l with
  | none => rfl
  | some o => rw [eg, hideAll_get _ e (fun hm => hne (List.mem_singleton.mp hm))] at h; cases h
theorem tabPost_new {H g h' : Heap} {L P c' : Addr} {nw : List (Addr × Obj)} {oc : Obj} {vs : Array Value} {x y : Int} {q : Str} {t : Tok} (hP : H.get? P = some (tabObj #[])) (eg : g = hideAll H [P]) (N : News g L h' nw)
    (hm : (P, tabObj (#[] ++ #[rawInt x, rawInt y, .ref c'])) ∈ nw) (hc : (c', oc) ∈ nw) (d1 : oc.data = .fields vs) (d2 : vs[1]? = some (.str q t)) : TabPost P x y q H h' := by
  refine ⟨fun _ => ⟨c', oc, vs, t, fresh_hidden eg (N _ hc).2.2 ?_, (N _ hc).1, d1, d2, by have := (N _ hm).1; simpa using this⟩, fun c9 h => ?_⟩
  · intro e
    have h1 := (N _ hc).1
    have h2 := (N _ hm).1
    dsimp only at h1 h2
    rw [e, h2] at h1
    cases h1
    cases d1
    simp [rawInt] at d2
  · rw [hP] at h; simp at h
theorem tabPost_old {H g h' : Heap} {L P c' : Addr} {nw : List (Addr × Obj)} {x y : Int} {q : Str} (hP : H.get? P = some (tabObj #[rawInt x, rawInt y, .ref c'])) (N : News g L h' nw) (hm : (P, tabObj #[rawInt x, rawInt y, .ref c']) ∈ nw) : TabPost P x y q H h' := by
  refine ⟨fun h => ?_, fun c9 h => ?_⟩
  · rw [hP] at h; simp at h
  · rw [hP] at h; rw [← h]; exact (N _ hm).1
end Mine
end

section
open PySem PySem.W PyProof.Rows PySem.Calls
set_option Elab.async false
set_option maxRecDepth 100000
set_option maxHeartbeats 8000000
namespace Mine
section
variable {w : World} {p : Program} {loose : List Str} {mean : ExcName → Option Value} {mg mb : Str → Option Value}
theorem fillI2w : ∀ h : Heap, (Mine.hd.heap_39 w.params).In h → PySem.Challenge.rw_xg0080_01 = PySem.Challenge.rw_xg0080_01 := by k_fill; intro _ _; rfl
theorem inner_walk {oc : Value} {od : Option Addr} {osl : Array (Option Value)} {name qual inm ibd : Str} {P ip : Arguments} {s1 s3 s4 : Stmt} {ib : List Stmt} {scope isc : Scope} {its : Option Scope} {idl : List PySem.Expr} {irt : Option PySem.Expr} {itp} {ipos : Pos} {dV kV doc pm cdv ct : Value} {an : Option Addr}
    (ho : (Mine.hd.heap_39 w.params).lookup 78 = some ⟨oc, od, .func (fnOf name qual P [s1, .FunctionDef inm ip ib idl irt itp isc its ibd ipos, s3, s4] scope dV kV doc pm an cdv ct), osl⟩)
    {c : InCtx} {icl : List (Str × Addr)} {idoc ipm ict : Value} {ic : Addr} (hfo : c.fo = fnMade inm c.qual ip ib isc icl idoc ipm ic ict) (hcd : c.cd = .ref ic)
    (hA : icl.lookup (Str.ofString "a_digits") = some c.cA) (hI : icl.lookup (Str.ofString "inner") = some c.cI) (hN : icl.lookup (Str.ofString "n") = some c.cN) : ∀ k, InnerC w p loose mean mg mb c k := by
  refine' lit_of ?e ho ?_
  case e => k_is
  intro e
  cases e
  clear ho
  refine inner_all fun k IH => ?_
  intro x lx rx t1 t2 t3 ns hio
  refine' con_ofF ?hd ?hd1 ?hof ?hb ?hl ?hc ?hco ?hg ?hk ?_
  case hof => rintro H ⟨⟨a, b⟩, _⟩; rw [hcd] at a; exact a
  case hd => rw [hfo]
  case hd1 => omega
  case hb => exact rfl
  case hl => exact locs rfl
  case hc => decide
  case hco => exact rfl
  case hg => exact rfl
  case hk => exact rfl
  intro dp un gd outer A₀ base H g L' h₁ s Q E eg eL B' F' hk₁ X' T' hdp hun hpre hret
  obtain ⟨hf0, its, ep, e1, e2⟩ := hpre
  have hf := hf0.hidden ⟨its, ep, e1, e2⟩ ⟨_, by rw [hfo]⟩ eg
  have N' := news_hidden eg (.head _) eL hk₁ e1
  have g1 := hf.2.1
  have g2 := hf.2.2.1
  obtain ⟨tn, g3⟩ := hf.2.2.2
  have hlt := ltN (show c.l < L' by rw [eL]; exact Heap.lt_size e1)
  have hFn : FnAt c.f g := ⟨_, _, _, _, by rw [hf.1.1, hfo]⟩
  obtain ⟨i1, i2, i3, i4, i5, i6, i7, i8, i9⟩ := id hio
  (try k_fold)
  repeat' (
    first
    | (k_unfold; (try dsimp only)) | (k_end; wrow_close)
    | ((with_reducible show wpAny _ _ (call (Value.ref _) _ _) _ _ _); (k_here; (with_reducible rename InnerUp _ _ _ _ _ _ _ _ => IH); k_dflt (refine' use_inner IH ?kf ?k1 ?k2 ?k3 ?k4 ?k5 ?k6 ?k7 ?k8 ?_ ?_; (case kf => exact rfl); (case k1 => k_asm); (case k2 => k_asm); (case k3 => k_asm); (case k4 => k_asm); (case k5 => exact rfl); (case k6 => k_asm); (case k7 => assumption); (case k8 => assumption)); rotate_left; intro its' ep' h' tk' F' N' hI'; (try dsimp only)))
    | (((with_reducible show FnAt _ _ ∧ _); refine ⟨fnAt_keep (by assumption) (by assumption), ?_⟩; try dsimp only [List.nil_append, List.cons_append]))
    | ((with_reducible show wpAny _ _ (callWith _ (Value.ref _) _ _ _) _ _ _); (k_here; k_dflt (refine' callWith_F ?k1 ?_; (case k1 => exact fnAt_keep (by assumption) (by assumption)))))
    | ((with_reducible show wpAny _ _ (eval (Expr.Name _ _) _) _ _ _); (k_here; k_dflt (refine' g_free ?F ?c ?v ?_ ?a ?b ?d ?e; (case a => rfl); (case b => rfl); (case c => first | assumption | rfl); (case d => decide); (case e => decide); (case F => k_asm); (case v => assumption))))
    | walk1 | (dsimp only; walk1) | (leave1; walk_say "STEP leave1"; try dsimp only) | fail "no step")
  all_goals (try (exact ⟨by decide⟩))
  all_goals (first
    | (refine hret _ _ _ (Fr.keep (by assumption)) ⟨rfl, _, _, (News.get (by assumption) (List.Mem.head _)), ?_⟩)
    | skip)
  all_goals (first
    | (rw [← in_leaf hio (by assumption)]; assumption)
    | (obtain ⟨o1, o2, o3, j, hj, o4, o5, o6⟩ := in_step hio (by assumption) _ _ _ _ rfl rfl rfl rfl; first
        | exact ⟨⟨o1, o2⟩⟩ | exact ⟨o1⟩ | exact ⟨o3⟩ | exact ⟨⟨j, hj, o4, by omega, by omega⟩⟩ | exact ⟨⟨j, hj, o5, by omega, by omega⟩⟩ | (rw [← o6]; assumption))
    | skip)
end
end Mine
end

section
open PySem PySem.W PyProof.Rows PySem.Calls
set_option Elab.async false
set_option maxRecDepth 100000
set_option maxHeartbeats 8000000
namespace Mine
section
variable {w : World} {p : Program} {loose : List Str} {mean : ExcName → Option Value} {mg mb : Str → Option Value}
theorem fillI2 : ∀ h : Heap, (Mine.hd.heap_39 w.params).In h → PySem.Challenge.rw_xg0080_01 = PySem.Challenge.rw_xg0080_01 := by k_fill; intro _ _; rfl
theorem codeHd73 {g : Heap} (X : (Mine.hd.heap_39 w.params).In g) : CodeHd g 77 73 :=
  ⟨_, _, _, _, _, _, _, _, _, X 77 _ (by k_is), rfl, rfl, rfl, rfl, rfl, rfl, rfl, rfl, by decide⟩
theorem i2d (a : Int) (n : Nat) (ta tn : Tok) (hok : I2Ok a n) :
    Con w p loose mean mg mb 78 [.int a ta, .int n tn] 10 200 [73] (Tab 73 49 4 q73)
      (fun H r h' => TabPost 73 49 4 q73 H h' ∧ ∃ l its ep, r = .ref l ∧ H.get? l = none ∧ h'.get? l = some (listOf (List.toArray its) ep) ∧ IntsAre its (digs n (nd a n) a)) := by
  refine' con_ofC ?k6 ?k7 ?kd ?k9 ?kB ?kD ?c2 ?c3 ?c4 ?_
  case k6 => k_is
  case k7 => k_is
  case kd => omega
  case k9 => exact rfl
  case kB => exact rfl
  case kD => decide +kernel
  case c2 => exact rfl
  case c3 => exact rfl
  case c4 => exact rfl
  intro dp un gd outer A₀ base H g L' h₁ tk cells s Q E eg eL B' F' N0 Y' hk₁ X' T' hdp hun hpre hret
  have hC := codeHd73 X'
  obtain ⟨ps, hP, hps⟩ := hpre
  have hL73 := ltN (show 73 < L' by rw [eL]; exact Heap.lt_size hP)
  have hne : a ≠ 0 := by have := hok.1; omega
  rcases hps with rfl | ⟨c9, rfl, hc9⟩
  rotate_left
  have hg9 := codeRec_tab hc9 hP eg
  rotate_left
  all_goals (
    have N' := fun q hq => (List.mem_append.mp hq).elim (N0 q) (news_hidden eg (.head _) eL hk₁ hP q)
    clear N0
    k_cells Y'
    (try simp only [List.cons_append, List.nil_append] at N')
    (try k_fold)
    repeat' (
      first
      | (k_unfold; (try dsimp only)) | (k_end; wrow_close)
      | ((with_reducible show wpAny _ _ (call (Value.ref _) _ _) _ _ _); (k_here; k_dflt (first | (refine' use_innerU (c := ⟨_, _, _, _, _, _, _, _, _⟩) ?_ ?k1 ?k2 ?k3 ?k4 ?k5 ?k6 ?k7 ?k8 (inFix_news (Str.ofString "a_digits") (Str.ofString "inner") (Str.ofString "n") ?m0 ?m1 ?e0 ?e4 ?e1 ?e2 ?e3 ?m2 ?m3 ?m4 ?m5 ?m6 ?m7 ?m8 ?m9 ?m10) ?_ ?_; (case k1 => k_asm); (case k2 => k_asm); (case k3 => k_asm); (case k4 => k_asm); (case k5 => exact rfl); (case k6 => k_asm); (case m0 => k_asm); (case m1 => k_mem); (case e0 => exact rfl); (case e4 => exact rfl); (case e1 => exact rfl); (case e2 => exact rfl); (case e3 => exact rfl); (case m2 => k_mem); (case m3 => assumption); (case m4 => assumption); (case m5 => k_mem); (case m6 => assumption); (case m7 => k_mem); (case m8 => assumption); (case m9 => k_mem); (case m10 => assumption); (case k7 => k_updF); (case k8 => assumption)) | (refine' use_innerU (c := ⟨_, _, _, _, _, _, _, _, _⟩) ?_ ?k1 ?k2 ?k3 ?k4 ?k5 ?k6 ?k7 ?k8 (inFix_news' (Str.ofString "a_digits") (Str.ofString "inner") (Str.ofString "n") ?f0 ?m0 ?m1 ?e0 ?e4 ?e1 ?e2 ?e3 ?m2 ?m5 ?m6 ?m7 ?m8 ?m9 ?m10) ?_ ?_; (case k1 => k_asm); (case k2 => k_asm); (case k3 => k_asm); (case k4 => k_asm); (case k5 => exact rfl); (case k6 => k_asm); (case f0 => k_asm); (case m0 => k_asm); (case m1 => k_mem); (case e0 => exact rfl); (case e4 => exact rfl); (case e1 => exact rfl); (case e2 => exact rfl); (case e3 => exact rfl); (case m2 => assumption); (case m5 => k_mem); (case m6 => assumption); (case m7 => k_mem); (case m8 => assumption); (case m9 => k_mem); (case m10 => assumption); (case k7 => k_updF); (case k8 => assumption))); rotate_left; rotate_left; intro its' ep' h' tk' F' N' hI'; (try dsimp only at N'); (try dsimp only); (try k_fold)))
      | ((with_reducible show wpAny _ _ (storeName _ _ _) _ _ _); (k_here; k_dflt (refine' storeX_C ?F ?N ?c ?U ?d ?_ ?a ?b; (case a => rfl); (case b => rfl); (case F => k_asm); (case N => k_asm); (case c => rfl); (case U => k_updF); (case d => k_asm)); intro h' o' F' N' d'; (try dsimp only at N'); (try k_sweep)))
      | ((with_reducible show wpAny _ _ (call (Value.builtin "len") _ _) _ _ _); (k_here; k_dflt (refine' g_len ?k1 ?k2 ?k3 ?_ ?_; (case k1 => k_asm); (case k2 => k_mem); (case k3 => assumption)); rotate_left))
      | ((with_reducible show wpAny _ _ (binaryOp Operator.Mult (Value.ref _) (Value.int _ _)) _ _ _); (k_here; k_dflt (refine' g_rep1 ?k1 ?k2 ?k3 ?_ ?_; (case k1 => k_asm); (case k2 => k_asm); (case k3 => k_mem)); rotate_left; intro l' vs' h' hI' F' N' l1; (try k_lt l1)))
      | walk1 | (dsimp only; walk1) | (leave1; walk_say "STEP leave1"; try dsimp only) | fail "no step"))
  all_goals (try (exact absurd (by assumption) hne))
  all_goals (try (exact ⟨inner_walk (by k_is) rfl rfl rfl rfl rfl⟩))
  all_goals (first
    | exact ⟨(i2_facts hok (c := ⟨default, 0, 0, 0, 0, 0, .none, Str.empty, n⟩) rfl).1⟩
    | exact ⟨⟨(i2_facts hok (c := ⟨default, 0, 0, 0, 0, 0, .none, Str.empty, n⟩) rfl).2.2.1, (i2_facts hok (c := ⟨default, 0, 0, 0, 0, 0, .none, Str.empty, n⟩) rfl).2.1⟩⟩
    | exact ⟨(i2_facts hok (c := ⟨default, 0, 0, 0, 0, 0, .none, Str.empty, n⟩) rfl).2.2.2.1⟩
    | exact ⟨⟨6, (i2_facts hok rfl).2.2.2.2.1, by omega, by omega⟩⟩
    | skip)
  all_goals (
    refine' hret _ _ _ (Fr.keep (by assumption)) ⟨?a1, _, _, _, rfl, ?a2, ?a3, ?a4⟩
    case a3 => exact News.get (by assumption) (by k_mem)
    case a2 => exact fresh_hidden eg (News.fresh (by assumption) (by k_mem)) (Nat.ne_of_gt (by omega))
    case a4 => rw [← (i2_facts hok (c := ⟨default, 0, 0, 0, 0, 0, .none, Str.empty, n⟩) rfl).2.2.2.2.2]; assumption
    case a1 => first
      | exact tabPost_new hP eg (by assumption) (by k_mem) (by k_mem) (by assumption) (by assumption)
      | exact tabPost_old hP (by assumption) (by k_mem))
end
end Mine
end

section
open PySem PySem.W PyProof.Rows PySem.Calls
set_option Elab.async false
set_option maxRecDepth 100000
set_option linter.unusedVariables false
namespace Mine
/-- the number that the figures tell -/
def val (n : Nat) : List Int → Int
  | [] => 0
  | d :: r => d + 2 ^ n * val n r
theorem val_append (n : Nat) : ∀ a b : List Int, val n (a ++ b) = val n a + 2 ^ (n * a.length) * val n b
  | [], b => by simp [val]
  | d :: r, b => by
    rw [List.cons_append, val, val_append n r b, val, List.length_cons, Nat.mul_succ, Nat.add_comm (n * r.length), Int.pow_add, Int.mul_add, Int.mul_assoc]
    lia
theorem val_bounds (n : Nat) : ∀ ds : List Int, (∀ d ∈ ds, 0 ≤ d ∧ d < 2 ^ n) → 0 ≤ val n ds ∧ val n ds < 2 ^ (n * ds.length)
  | [], _ => by simp [val]
  | d :: r, h => by
    obtain ⟨h1, h2⟩ := val_bounds n r fun x hx => h x (.tail _ hx)
    have hd := h d (.head _)
    have hp := pow_pos' n
    rw [val, List.length_cons, Nat.mul_succ, Nat.add_comm, Int.pow_add]
    have a1 := Int.mul_nonneg (Int.le_of_lt hp) h1
    have a2 := Int.mul_le_mul_of_nonneg_left (show val n r ≤ 2 ^ (n * r.length) - 1 by lia) (Int.le_of_lt hp)
    rw [Int.mul_sub, Int.mul_one] at a2
    lia
structure DCtx where
  fo : Obj
  f : Addr
  l : Addr
  cD : Addr
  cI : Addr
  cN : Addr
  cd : Value
  qual : Str
  n : Nat
  ds : List Int
def DFix (c : DCtx) (h : Heap) : Prop := (h.get? c.f = some c.fo ∧ h.CodeRec c.cd c.qual) ∧ h.IsCell c.cD (some (.ref c.l)) ∧ h.IsCell c.cI (some (.ref c.f)) ∧ (∃ tn, h.IsCell c.cN (some (.int c.n tn))) ∧
  ∃ vs, h.IsList c.l (List.toArray vs) ∧ IntsAre vs c.ds
theorem isList_keeps {h h' : Heap} {l : Addr} {a : Array Value} (x : h.IsList l a) (k : ∀ b o, h.get? b = some o → h'.get? b = some o) : h'.IsList l a := let ⟨o, e, r⟩ := x; ⟨o, k _ _ e, r⟩
theorem DFix.keeps {c : DCtx} {h h' : Heap} (x : DFix c h) (k : ∀ b o, h.get? b = some o → h'.get? b = some o) : DFix c h' :=
  ⟨⟨k _ _ x.1.1, x.1.2.keeps k⟩, isCell_keeps x.2.1 k, isCell_keeps x.2.2.1 k, (let ⟨t, a⟩ := x.2.2.2.1; ⟨t, isCell_keeps a k⟩), let ⟨vs, a, b⟩ := x.2.2.2.2; ⟨vs, isList_keeps a k, b⟩⟩
def DOk (c : DCtx) (k : Nat) (lx rx : Int) : Prop := 0 ≤ lx ∧ lx < rx ∧ rx ≤ c.ds.length ∧ rx - lx ≤ 2 ^ k ∧ c.ds.length ≤ 64 ∧ 1 ≤ c.n ∧ c.n ≤ 10000 ∧ ∀ d ∈ c.ds, 0 ≤ d ∧ d < 2 ^ c.n
/-- the part from lx to rx -/
def part (ds : List Int) (lx rx : Int) : List Int := (ds.drop lx.toNat).take (rx.toNat - lx.toNat)
def DInC (w : World) (p : Program) (loose : List Str) (mean : ExcName → Option Value) (mg mb : Str → Option Value) (c : DCtx) (k : Nat) : Prop :=
  ∀ (lx rx : Int) (t1 t2 : Tok), DOk c k lx rx →
    Con w p loose mean mg mb c.f [.int lx t1, .int rx t2] (k + 1) (16 * (k + 1)) [] (DFix c) (fun _ r _ => ∃ t, r = .int (val c.n (part c.ds lx rx)) t)
def DInUp (w : World) (p : Program) (loose : List Str) (mean : ExcName → Option Value) (mg mb : Str → Option Value) (c : DCtx) (k : Nat) : Prop := ∀ j, k = j + 1 → DInC w p loose mean mg mb c j
section
variable {w : World} {p : Program} {loose : List Str} {mean : ExcName → Option Value} {mg mb : Str → Option Value}
  {dp un : Nat} {gd : Option (List Code)} {cn : Str} {cs : Scope} {ad : Addr} {ccd : Value} {cl : List (Str × Addr)} {outer : List Env} {A₀ : Around} {base h₀ : Heap} {L : Addr} {m : Str → Option Value} {news : List (Addr × Obj)} {s : Shared} {Q E : Value → Shared → Prop} {c : DCtx} {k : Nat}
/-- a call that changes nothing and hands back an int -/
theorem con_useI {f : Addr} {vs : List Value} {d u : Nat} {Pre : Heap → Prop} {x : Int} (C : Con w p loose mean mg mb f vs d u [] Pre (fun _ r _ => ∃ t, r = .int x t))
    (B : Below A₀ base outer h₀) (F : Fr h₀ L s.heap m) (X : (Mine.hd.heap_39 w.params).In h₀) (N : News h₀ L s.heap news) (T : Top p loose mean mg mb h₀) (hk : cs.kind = .function) (hd : dp + d < recursionLimit) (hu : un + u < cLine) (hpre : Pre s.heap)
    (h : ∀ t h' tk', Fr h₀ L h' m → News h₀ L h' news → Q (.int x t) { s with heap := h', toks := tk' }) :
    wpAny (model PySem.Challenge.rw_xg0080_01.row.prog w) (ktrTop dp un gd cn cs L ad ccd cl outer) (call (.ref f) vs) Q E s := by
  refine C dp un gd cn cs ad ccd cl outer A₀ base h₀ L m s Q E B F X T hk hd hu (fun _ h => nomatch h) hpre fun r h' tk' hkeep hp => ?_
  obtain ⟨t, rfl⟩ := hp
  have kk : ∀ b o, s.heap.get? b = some o → h'.get? b = some o := fun b o e => hkeep b o (fun h => nomatch h) e
  exact h t h' tk' (F.keeps kk) (N.grown kk)
theorem use_dIn {f : Addr} {lx rx : Int} {t1 t2 : Tok} (I : DInUp w p loose mean mg mb c k) (hf : f = c.f) (B : Below A₀ base outer h₀) (F : Fr h₀ L s.heap m) (X : (Mine.hd.heap_39 w.params).In h₀) (N : News h₀ L s.heap news) (T : Top p loose mean mg mb h₀) (hk : cs.kind = .function)
    (G : DFix c h₀) (h0 : Owe (∃ j, k = j + 1 ∧ DOk c j lx rx ∧ dp + (j + 1) < recursionLimit ∧ un + 16 * (j + 1) < cLine))
    (h : ∀ t h' tk', Fr h₀ L h' m → News h₀ L h' news → Q (.int (val c.n (part c.ds lx rx)) t) { s with heap := h', toks := tk' }) :
    wpAny (model PySem.Challenge.rw_xg0080_01.row.prog w) (ktrTop dp un gd cn cs L ad ccd cl outer) (call (.ref f) [.int lx t1, .int rx t2]) Q E s := by
  obtain ⟨j, rfl, o1, o2, o3⟩ := h0.out
  subst hf
  exact con_useI (I j rfl lx rx t1 t2 o1) B F X N T hk o2 o3 (G.keeps F.keep) h
theorem use_dInN {lx rx : Int} {t1 t2 : Tok} (I : Owe (∀ k, DInC w p loose mean mg mb c k)) (B : Below A₀ base outer h₀) (F : Fr h₀ L s.heap m) (X : (Mine.hd.heap_39 w.params).In h₀) (N : News h₀ L s.heap news) (T : Top p loose mean mg mb h₀) (hk : cs.kind = .function)
    (G : DFix c s.heap) (h0 : Owe (∃ k, DOk c k lx rx ∧ dp + (k + 1) < recursionLimit ∧ un + 16 * (k + 1) < cLine))
    (h : ∀ t h' tk', Fr h₀ L h' m → News h₀ L h' news → Q (.int (val c.n (part c.ds lx rx)) t) { s with heap := h', toks := tk' }) :
    wpAny (model PySem.Challenge.rw_xg0080_01.row.prog w) (ktrTop dp un gd cn cs L ad ccd cl outer) (call (.ref c.f) [.int lx t1, .int rx t2]) Q E s := by
  obtain ⟨k, o1, o2, o3⟩ := h0.out
  exact con_useI (I.out k lx rx t1 t2 o1) B F X N T hk o2 o3 G h
theorem dIn_all (D : ∀ k, DInUp w p loose mean mg mb c k → DInC w p loose mean mg mb c k) : ∀ k, DInC w p loose mean mg mb c k
  | 0 => D 0 fun j h => by lia
  | k + 1 => D (k + 1) fun j h => by
    have e : k = j := by lia
    subst e
    exact dIn_all D k
theorem dFix_news (xA xI xN : Str) {fo oA oI oN oc : Obj} {fd : FuncData} {f l cA cI cN c' : Addr} {vs : Array Value} {q : Str} {t tn : Tok} {n : Nat} {h : Heap} {lv : List Value} {ds : List Int} (F : Fr h₀ L h m) (N : News h₀ L h news) (hf : (f, fo) ∈ news) (_e : fo.data = .func fd) (_ec : fd.code = .ref c')
    (_eA : fd.closure.lookup xA = some cA) (_eI : fd.closure.lookup xI = some cI) (_eN : fd.closure.lookup xN = some cN) (hc : (c', oc) ∈ news) (d1 : oc.data = .fields vs) (d2 : vs[1]? = some (.str q t))
    (hA : (cA, oA) ∈ news) (dA : oA.data = .cell (some (.ref l))) (hI : (cI, oI) ∈ news) (dI : oI.data = .cell (some (.ref f))) (hN : (cN, oN) ∈ news) (dN : oN.data = .cell (some (.int n tn)))
    (hl : h₀.IsList l (List.toArray lv)) (hi : IntsAre lv ds) : DFix ⟨fo, f, l, cA, cI, cN, .ref c', q, n, ds⟩ h :=
  ⟨⟨(N _ hf).1, c', oc, vs, t, rfl, (N _ hc).1, d1, d2⟩, ⟨_, (N _ hA).1, dA⟩, ⟨_, (N _ hI).1, dI⟩, ⟨tn, _, (N _ hN).1, dN⟩, lv, isList_keeps hl F.keep, hi⟩
theorem dFix_news' (xA xI xN : Str) {fo oA oI oN : Obj} {fd : FuncData} {f l cA cI cN : Addr} {cd : Value} {q : Str} {tn : Tok} {n : Nat} {h : Heap} {lv : List Value} {ds : List Int} (F : Fr h₀ L h m) (N : News h₀ L h news) (hf : (f, fo) ∈ news) (_e : fo.data = .func fd) (_ec : fd.code = cd)
    (_eA : fd.closure.lookup xA = some cA) (_eI : fd.closure.lookup xI = some cI) (_eN : fd.closure.lookup xN = some cN) (hc : h₀.CodeRec cd q)
    (hA : (cA, oA) ∈ news) (dA : oA.data = .cell (some (.ref l))) (hI : (cI, oI) ∈ news) (dI : oI.data = .cell (some (.ref f))) (hN : (cN, oN) ∈ news) (dN : oN.data = .cell (some (.int n tn)))
    (hl : h₀.IsList l (List.toArray lv)) (hi : IntsAre lv ds) : DFix ⟨fo, f, l, cA, cI, cN, cd, q, n, ds⟩ h :=
  ⟨⟨(N _ hf).1, hc.keeps F.keep⟩, ⟨_, (N _ hA).1, dA⟩, ⟨_, (N _ hI).1, dI⟩, ⟨tn, _, (N _ hN).1, dN⟩, lv, isList_keeps hl F.keep, hi⟩
end

section
variable {c : DCtx} {k : Nat} {lx rx : Int}
theorem d_leaf (h : DOk c k lx rx) (e : lx + 1 = rx) : val c.n (part c.ds lx rx) = c.ds.getD lx.toNat 0 := by
  obtain ⟨i1, i2, i3, i4, i5, i6, i7, i8⟩ := h
  have e1 : rx.toNat - lx.toNat = 1 := by lia
  have hl : lx.toNat < c.ds.length := by lia
  unfold part
  rw [e1, List.drop_eq_getElem_cons hl, List.getD_eq_getElem?_getD, List.getElem?_eq_getElem hl]
  rw [List.take_succ_cons, List.take_zero, val, val, Int.mul_zero, Int.add_zero]
  rfl
theorem part_bounds (h : DOk c k lx rx) : 0 ≤ val c.n (part c.ds lx rx) ∧ Builtin.Int.intBits (val c.n (part c.ds lx rx)) ≤ 640000 := by
  obtain ⟨i1, i2, i3, i4, i5, i6, i7, i8⟩ := h
  have hb := val_bounds c.n (part c.ds lx rx) fun d hd => i8 d (List.mem_of_mem_drop (List.mem_of_mem_take hd))
  refine ⟨hb.1, Nat.le_trans (bits_of_lt hb.1 hb.2) ?_⟩
  have : (part c.ds lx rx).length ≤ 64 := by unfold part; rw [List.length_take, List.length_drop]; lia
  exact Nat.le_trans (Nat.mul_le_mul i7 this) (by decide)
theorem d_step (h : DOk c k lx rx) (e : ¬ lx + 1 = rx) (mid S : Int) (em : mid = (lx + rx) / 2 ^ Int.toNat 1) (eS : S = (mid - lx) * (c.n : Int)) :
    0 ≤ S ∧ IntMulOk (mid - lx) c.n ∧ (Builtin.Int.intBits (val c.n (part c.ds mid rx)) : Int) + S ≤ 2 ^ 27 ∧ (∃ j, k = j + 1 ∧ DOk c j mid rx ∧ DOk c j lx mid) ∧
      val c.n (part c.ds mid rx) * 2 ^ S.toNat + val c.n (part c.ds lx mid) = val c.n (part c.ds lx rx) := by
  obtain ⟨i1, i2, i3, i4, i5, i6, i7, i8⟩ := h
  rw [p21] at em
  have hk : ∃ j, k = j + 1 := by
    cases k with
    | zero => exfalso; simp at i4; clear em eS; lia
    | succ j => exact ⟨j, rfl⟩
  obtain ⟨j, rfl⟩ := hk
  rw [Int.pow_succ] at i4
  obtain ⟨u1, u2, u3, u4⟩ := mids i2 e em i4
  obtain ⟨v1, v2, m3, v4⟩ := natz i1 u1 u2
  have g3 : rx - lx ≤ 64 := Int.le_trans (Int.sub_le_self _ i1) (Int.le_trans i3 (Int.ofNat_le.mpr i5))
  have g1 : mid - lx ≤ 64 := Int.le_trans (Int.sub_le_sub_right (Int.le_of_lt u2) lx) g3
  have g0 : 0 ≤ mid - lx := Int.sub_nonneg_of_le (Int.le_of_lt u1)
  have g2 : (0 : Int) ≤ (c.n : Int) := Int.natCast_nonneg _
  have i3' := toNat_le_of i3
  have o1 : DOk c j mid rx := ⟨Int.le_of_lt (Int.lt_of_le_of_lt i1 u1), u2, i3, u4, i5, i6, i7, i8⟩
  have o2 : DOk c j lx mid := ⟨i1, u1, Int.le_trans (Int.le_of_lt u2) i3, u3, i5, i6, i7, i8⟩
  clear em e i4 i2 g3 u3 u4 i8 i1 u1 u2
  have hS0 : 0 ≤ S := by rw [eS]; exact Int.mul_nonneg g0 g2
  have hS1 : S ≤ 640000 := by
    rw [eS]
    have h1 := Int.mul_le_mul_of_nonneg_right g1 g2
    clear v1 v2 m3 v4
    lia
  have hb := (part_bounds o1).2
  refine ⟨hS0, IntMulOk.of_right (intBits_le_64 (Int.lt_of_lt_of_le (by decide) g2) (Int.lt_of_le_of_lt (Int.ofNat_le.mpr i7) (by decide))), by clear v1 v2 m3 v4 g0 g1 eS; lia, ⟨j, rfl, o1, o2⟩, ?_⟩
  have w2 := Nat.le_trans (Nat.le_of_lt v2) i3'
  have hp : part c.ds lx rx = part c.ds lx mid ++ part c.ds mid rx := by
    unfold part
    rw [m3, List.take_add, List.drop_drop, Nat.add_sub_cancel' (Nat.le_of_lt v1)]
  have hl : (part c.ds lx mid).length = mid.toNat - lx.toNat := by
    unfold part; rw [List.length_take, List.length_drop]
    exact Nat.min_eq_left (Nat.sub_le_sub_right w2 _)
  have hST : S.toNat = c.n * (mid.toNat - lx.toNat) := by
    have : ((c.n * (mid.toNat - lx.toNat) : Nat) : Int) = S := by
      rw [Int.natCast_mul, Int.mul_comm, eS, v4]
    rw [← this, Int.toNat_natCast]
  rw [hp, val_append, hl, hST, Int.mul_comm, Int.add_comm]
end
end Mine
end

section
open PySem PySem.W PyProof.Rows
set_option Elab.async false
set_option linter.unusedVariables false
namespace Mine
abbrev q80 : Str := Str.ofString "_digits2int.<locals>.inner"
def D1Ok (ds : List Int) (n : Nat) : Prop := 1 ≤ ds.length ∧ ds.length ≤ 64 ∧ 1 ≤ n ∧ n ≤ 10000 ∧ ∀ d ∈ ds, 0 ≤ d ∧ d < 2 ^ n
theorem d1_ok {ds : List Int} {n : Nat} (h : D1Ok ds n) {c : DCtx} (hc : c.n = n) (hd : c.ds = ds) : DOk c 6 0 (ds.length : Int) ∧ val c.n (part c.ds 0 (ds.length : Int)) = val n ds := by
  obtain ⟨h1, h2, h3, h4, h5⟩ := h
  subst hc hd
  refine ⟨⟨by lia, by lia, by lia, by simp; lia, h2, h3, h4, h5⟩, ?_⟩
  unfold part
  simp
theorem d1_ok1 {ds : List Int} {n : Nat} (h : D1Ok ds n) {c : DCtx} (hc : c.n = n) (hd : c.ds = ds) : DOk c 6 0 (ds.length : Int) := (d1_ok h hc hd).1
theorem d1_ok2 {ds : List Int} {n : Nat} (h : D1Ok ds n) {c : DCtx} (hc : c.n = n) (hd : c.ds = ds) : val c.n (part c.ds 0 (ds.length : Int)) = val n ds := (d1_ok h hc hd).2
theorem isList_hidden {H g : Heap} {P l : Addr} {a ps : Array Value} (x : H.IsList l a) (hP : H.get? P = some (tabObj ps)) (eg : g = hideAll H [P]) : g.IsList l a := by
  obtain ⟨o, e, hc, r⟩ := x
  refine ⟨o, ?_, hc, r⟩
  rw [eg]
  refine hideAll_get _ e fun hm => ?_
  rw [List.mem_singleton.mp hm, hP] at e
  cases e; cases hc
end Mine
end

section
open PySem PySem.W PyProof.Rows PySem.Calls
set_option Elab.async false
set_option maxRecDepth 100000
set_option maxHeartbeats 8000000
namespace Mine
section
variable {w : World} {p : Program} {loose : List Str} {mean : ExcName → Option Value} {mg mb : Str → Option Value}
theorem fillD1w : ∀ h : Heap, (Mine.hd.heap_39 w.params).In h → PySem.Challenge.rw_xg0080_01 = PySem.Challenge.rw_xg0080_01 := by k_fill; intro _ _; rfl
theorem dinner_walk {oc : Value} {od : Option Addr} {osl : Array (Option Value)} {name qual inm ibd : Str} {P ip : Arguments} {s4 : Stmt} {ib : List Stmt} {scope isc : Scope} {its : Option Scope} {idl : List PySem.Expr} {irt : Option PySem.Expr} {itp} {ipos : Pos} {dV kV doc pm cdv ct : Value} {an : Option Addr}
    (ho : (Mine.hd.heap_39 w.params).lookup 85 = some ⟨oc, od, .func (fnOf name qual P [.FunctionDef inm ip ib idl irt itp isc its ibd ipos, s4] scope dV kV doc pm an cdv ct), osl⟩)
    {c : DCtx} {icl : List (Str × Addr)} {idoc ipm ict : Value} {ic : Addr} (hfo : c.fo = fnMade inm c.qual ip ib isc icl idoc ipm ic ict) (hcd : c.cd = .ref ic)
    (hA : icl.lookup (Str.ofString "digits") = some c.cD) (hI : icl.lookup (Str.ofString "inner") = some c.cI) (hN : icl.lookup (Str.ofString "n") = some c.cN) : ∀ k, DInC w p loose mean mg mb c k := by
  refine' lit_of ?e ho ?_
  case e => k_is
  intro e
  cases e
  clear ho
  refine dIn_all fun k IH => ?_
  intro lx rx t1 t2 hio
  refine' con_ofF ?hd ?hd1 ?hof ?hb ?hl ?hc ?hco ?hg ?hk ?_
  case hof => rintro H ⟨a, b⟩; rw [hcd] at a; exact a
  case hd => rw [hfo]
  case hd1 => omega
  case hb => exact rfl
  case hl => exact locs rfl
  case hc => decide
  case hco => exact rfl
  case hg => exact rfl
  case hk => exact rfl
  intro dp un gd outer A₀ base H g L' h₁ s Q E eg eL B' F' hk₁ X' T' hdp hun hpre hret
  have eg' : g = H := eg
  subst eg'
  have hf := hpre
  have g1 := hf.2.1
  have g2 := hf.2.2.1
  obtain ⟨tn, g3⟩ := hf.2.2.2.1
  obtain ⟨vs, g4, g5⟩ := hf.2.2.2.2
  have N' : News g L' h₁ [] := News.nil
  have hFn : FnAt c.f g := ⟨_, _, _, _, by rw [hf.1.1, hfo]⟩
  obtain ⟨i1, i2, i3, i4, i5, i6, i7, i8⟩ := id hio
  (try k_fold)
  repeat' (
    first
    | (k_unfold; (try dsimp only)) | (k_end; wrow_close)
    | ((with_reducible show wpAny _ _ (call (Value.ref _) _ _) _ _ _); (k_here; (with_reducible rename DInUp _ _ _ _ _ _ _ _ => IH); k_dflt (refine' use_dIn IH ?kf ?k1 ?k2 ?k3 ?k6 ?k4 ?k5 ?k8 ?_ ?_; (case kf => exact rfl); (case k1 => k_asm); (case k2 => k_asm); (case k3 => k_asm); (case k4 => k_asm); (case k5 => exact rfl); (case k6 => k_asm); (case k8 => assumption)); rotate_left; intro t' h' tk' F' N'; (try dsimp only)))
    | (((with_reducible show FnAt _ _ ∧ _); refine ⟨fnAt_keep (by assumption) (by assumption), ?_⟩; try dsimp only [List.nil_append, List.cons_append]))
    | ((with_reducible show wpAny _ _ (callWith _ (Value.ref _) _ _ _) _ _ _); (k_here; k_dflt (refine' callWith_F ?k1 ?_; (case k1 => exact fnAt_keep (by assumption) (by assumption)))))
    | ((with_reducible show wpAny _ _ (eval (Expr.Name _ _) _) _ _ _); (k_here; k_dflt (refine' g_free ?F ?c ?v ?_ ?a ?b ?d ?e; (case a => rfl); (case b => rfl); (case c => first | assumption | rfl); (case d => decide); (case e => decide); (case F => k_asm); (case v => assumption))))
    | walk1 | (dsimp only; walk1) | (leave1; walk_say "STEP leave1"; try dsimp only) | fail "no step")
  all_goals (try (exact ⟨by decide⟩))
  all_goals (first
    | (refine hret _ _ _ (Fr.keep (by assumption)) ⟨_, congrArg (fun z => Value.int z _) ?_⟩)
    | skip)
  all_goals (first
    | exact (d_leaf hio (by assumption)).symm
    | (obtain ⟨o1, o2, o3, ⟨j, hj, o4, o5⟩, o6⟩ := d_step hio (by assumption) _ _ rfl rfl; first
        | exact ⟨⟨o1, o3⟩⟩ | exact ⟨o2⟩ | exact ⟨⟨j, hj, o4, by omega, by omega⟩⟩ | exact ⟨⟨j, hj, o5, by omega, by omega⟩⟩ | exact o6)
    | skip)
end
end Mine
end

section
open PySem PySem.W PyProof.Rows PySem.Calls
set_option Elab.async false
set_option maxRecDepth 100000
set_option maxHeartbeats 8000000
namespace Mine
section
variable {w : World} {p : Program} {loose : List Str} {mean : ExcName → Option Value} {mg mb : Str → Option Value}
theorem fillD1 : ∀ h : Heap, (Mine.hd.heap_39 w.params).In h → PySem.Challenge.rw_xg0080_01 = PySem.Challenge.rw_xg0080_01 := by k_fill; intro _ _; rfl
theorem codeHd80 {g : Heap} (X : (Mine.hd.heap_39 w.params).In g) : CodeHd g 84 80 :=
  ⟨_, _, _, _, _, _, _, _, _, X 84 _ (by k_is), rfl, rfl, rfl, rfl, rfl, rfl, rfl, rfl, by decide⟩
theorem d1d (l : Addr) (ds : List Int) (n : Nat) (tn : Tok) (hok : D1Ok ds n) :
    Con w p loose mean mg mb 85 [.ref l, .int n tn] 10 200 [80] (fun H => Tab 80 64 4 q80 H ∧ ∃ vs, H.IsList l (List.toArray vs) ∧ IntsAre vs ds)
      (fun H r h' => TabPost 80 64 4 q80 H h' ∧ ∃ t, r = .int (val n ds) t) := by
  refine' con_ofC ?k6 ?k7 ?kd ?k9 ?kB ?kD ?c2 ?c3 ?c4 ?_
  case k6 => k_is
  case k7 => k_is
  case kd => omega
  case k9 => exact rfl
  case kB => exact rfl
  case kD => decide +kernel
  case c2 => exact rfl
  case c3 => exact rfl
  case c4 => exact rfl
  intro dp un gd outer A₀ base H g L' h₁ tk cells s Q E eg eL B' F' N0 Y' hk₁ X' T' hdp hun hpre hret
  have hC := codeHd80 X'
  obtain ⟨⟨ps, hP, hps⟩, vs, hl0, hi⟩ := hpre
  have hl := isList_hidden hl0 hP eg
  have hL73 := ltN (show 80 < L' by rw [eL]; exact Heap.lt_size hP)
  have hne : ¬ ds.length = 0 := by have := hok.1; omega
  rcases hps with rfl | ⟨c9, rfl, hc9⟩
  rotate_left
  have hg9 := codeRec_tab hc9 hP eg
  rotate_left
  all_goals (
    have N' := fun q hq => (List.mem_append.mp hq).elim (N0 q) (news_hidden eg (.head _) eL hk₁ hP q)
    clear N0
    k_cells Y'
    (try simp only [List.cons_append, List.nil_append] at N')
    (try k_fold)
    repeat' (
      first
      | (k_unfold; (try dsimp only)) | (k_end; wrow_close)
      | ((with_reducible show wpAny _ _ (call (Value.ref _) _ _) _ _ _); (k_here; k_dflt (first | (refine' use_dInN (c := ⟨_, _, _, _, _, _, _, _, _, _⟩) ?_ ?k1 ?k2 ?k3 ?k6 ?k4 ?k5 (dFix_news (Str.ofString "digits") (Str.ofString "inner") (Str.ofString "n") ?f0 ?m0 ?m1 ?e0 ?e4 ?e1 ?e2 ?e3 ?m2 ?m3 ?m4 ?m5 ?m6 ?m7 ?m8 ?m9 ?m10 ?n1 ?n2) ?_ ?_; (case k1 => k_asm); (case k2 => k_asm); (case k3 => k_asm); (case k4 => k_asm); (case k5 => exact rfl); (case k6 => k_asm); (case f0 => k_asm); (case m0 => k_asm); (case m1 => k_mem); (case e0 => exact rfl); (case e4 => exact rfl); (case e1 => exact rfl); (case e2 => exact rfl); (case e3 => exact rfl); (case m2 => k_mem); (case m3 => assumption); (case m4 => assumption); (case m5 => k_mem); (case m6 => assumption); (case m7 => k_mem); (case m8 => assumption); (case m9 => k_mem); (case m10 => assumption); (case n1 => assumption); (case n2 => assumption)) | (refine' use_dInN (c := ⟨_, _, _, _, _, _, _, _, _, _⟩) ?_ ?k1 ?k2 ?k3 ?k6 ?k4 ?k5 (dFix_news' (Str.ofString "digits") (Str.ofString "inner") (Str.ofString "n") ?f0 ?m0 ?m1 ?e0 ?e4 ?e1 ?e2 ?e3 ?m2 ?m5 ?m6 ?m7 ?m8 ?m9 ?m10 ?n1 ?n2) ?_ ?_; (case k1 => k_asm); (case k2 => k_asm); (case k3 => k_asm); (case k4 => k_asm); (case k5 => exact rfl); (case k6 => k_asm); (case f0 => k_asm); (case m0 => k_asm); (case m1 => k_mem); (case e0 => exact rfl); (case e4 => exact rfl); (case e1 => exact rfl); (case e2 => exact rfl); (case e3 => exact rfl); (case m2 => assumption); (case m5 => k_mem); (case m6 => assumption); (case m7 => k_mem); (case m8 => assumption); (case m9 => k_mem); (case m10 => assumption); (case n1 => assumption); (case n2 => assumption))); rotate_left; rotate_left; intro t' h' tk' F' N'; (try dsimp only); (try k_fold)))
      | ((with_reducible show wpAny _ _ (storeName _ _ _) _ _ _); (k_here; k_dflt (refine' storeX_C ?F ?N ?c ?U ?d ?_ ?a ?b; (case a => rfl); (case b => rfl); (case F => k_asm); (case N => k_asm); (case c => rfl); (case U => k_updF); (case d => k_asm)); intro h' o' F' N' d'; (try dsimp only at N'); (try k_sweep)))
      | ((with_reducible show wpAny _ _ (truthy (Value.ref _)) _ _ _); (k_here; k_dflt (refine' g_truthyB ?k1 ?k2 ?k3 ?_ ?_; (case k1 => k_asm); (case k2 => with_reducible assumption); (case k3 => with_reducible assumption)); rotate_left; intro tk'))
      | ((with_reducible show wpAny _ _ (call (Value.builtin "len") _ _) _ _ _); (k_here; k_dflt (refine' g_lenB ?k1 ?k2 ?k3 ?_ ?_; (case k1 => k_asm); (case k2 => with_reducible assumption); (case k3 => with_reducible assumption)); rotate_left))
      | walk1 | (dsimp only; walk1) | (leave1; walk_say "STEP leave1"; try dsimp only) | fail "no step"))
  all_goals (try (exact ⟨dinner_walk (by k_is) rfl rfl rfl rfl rfl⟩))
  all_goals (first
    | exact ⟨⟨hok.1, Nat.le_trans hok.2.1 (by decide)⟩⟩
    | exact ⟨Nat.le_trans hok.2.1 (by decide)⟩
    | exact ⟨⟨6, d1_ok1 hok rfl rfl, by omega, by omega⟩⟩
    | skip)
  all_goals (
    refine' hret _ _ _ (Fr.keep (by assumption)) ⟨?a1, _, congrArg (fun z => Value.int z _) ?a2⟩
    case a2 => exact d1_ok2 hok (c := ⟨default, 0, 0, 0, 0, 0, .none, Str.empty, n, ds⟩) rfl rfl
    case a1 => first
      | exact tabPost_new hP eg (by assumption) (by k_mem) (by k_mem) (by assumption) (by assumption)
      | exact tabPost_old hP (by assumption) (by k_mem))
end
end Mine
end

section
open PySem PySem.W PyProof.Rows PySem.Calls
set_option Elab.async false
set_option maxRecDepth 100000
set_option linter.unusedVariables false
namespace Mine
section
variable {prog : Program} {w : World} {A : Around} {E : Value → Shared → Prop} {s : Shared} {env : Env} {h₀ : Heap} {target : PySem.Expr} {body : List Stmt} {Q : Flow → Shared → Prop}

/-- a turn's end: the loop's own objects as they were, J one further; or the loop is left -/
def TEnd (h₀ : Heap) (L : Addr) (its : List (Addr × Obj)) (Jn : (Str → Option Value) → List (Addr × Obj) → Prop) (s : Shared) (Q : Flow → Shared → Prop) (f : Flow) (s₂ : Shared) : Prop :=
  match f with
  | .ret v => Q (.ret v) s₂
  | .brk => Q .next s₂
  | _ => ∃ h' tk' m' n', s₂ = { s with heap := h', toks := tk' } ∧ Fr h₀ L h' m' ∧ News h₀ L h' (its ++ n') ∧ Jn m' n'

/-- a loop over any iterator, by J over the frame's names and the ledger; ws: the iterator's own objects, with their kinds; keep: what it reads and the call has made -/
theorem turns_J {I : Addr} {fp wr : List Addr} {n : Nat} {P Md : Nat → Value → Heap → Prop} {St : Nat → Heap → Prop} {ws : List (Addr × String)} {keep : List (Addr × Obj)} {m₀ : Str → Option Value} {news : List (Addr × Obj)} {tk0 : Nat} {hp : Heap}
    (W : KTurns prog w A target I fp wr n P Md St)
    (hobj : ∀ i h, St i h → ∃ its, Objs ws its ∧ ∀ p ∈ its, h.get? p.1 = some p.2)
    (hws : ∀ b ∈ ws.map (·.1), b ∈ fp ∧ h₀.get? b = none) (hwr : ∀ b ∈ wr, b ∈ ws.map (·.1))
    (hfp : ∀ b ∈ fp, b ∈ ws.map (·.1) ∨ (∃ o, (b, o) ∈ keep) ∨ ∃ o, h₀.get? b = some o) (hL : env.locals ∉ fp) (hst : St 0 hp)
    (F : Fr h₀ env.locals hp m₀) (N : News h₀ env.locals hp news)
    (J : Nat → (Str → Option Value) → List (Addr × Obj) → Prop) (h0 : J 0 m₀ news) (hJ : ∀ i m₁ n₁, J i m₁ n₁ → (∀ p ∈ n₁, p.1 ∉ ws.map (·.1)) ∧ ∀ p ∈ keep, p ∈ n₁)
    (turn : ∀ i v m₁ n₁ h tk, i < n → P i v h → J i m₁ n₁ → Fr h₀ env.locals h m₁ → AllObj ws (fun its => News h₀ env.locals h (its ++ n₁) →
      wpAny (model prog w) A (assign target env v) (fun _ s₃ => wpAny (model prog w) A (execs body env) (TEnd h₀ env.locals its (J (i + 1)) { s with heap := h, toks := tk } Q) E s₃) E { s with heap := h, toks := tk }))
    (done : ∀ m₁ n₁ h tk, J n m₁ n₁ → Fr h₀ env.locals h m₁ → News h₀ env.locals h n₁ → Q .next { s with heap := h, toks := tk }) :
    TurnsAt prog w A h₀ env target body Q E (.ref I) { s with heap := hp, toks := tk0 } := by
  have hwr' : ∀ {m₁ n₁} {i : Nat}, J i m₁ n₁ → ∀ p ∈ n₁, p.1 ∉ wr := fun hj p hp hw => (hJ _ _ _ hj).1 p hp (hwr _ hw)
  refine ⟨I, fp, wr, n, P, Md, St, m₀, news, J, rfl, W, hL, fun b hb => (hws b (hwr b hb)).2, hwr' h0, hst, F, N, h0, ?_, ?_⟩
  · intro i v m₁ n₁ h₁ tk₁ own hin hPi hj hoff hown hget hall hst₁ F₁ N₁
    obtain ⟨its, hits, hval⟩ := hobj (i + 1) h₁ hst₁
    have hmap := hits.map
    obtain ⟨hj1, hj2⟩ := hJ _ _ _ hj
    have N₂ : News h₀ env.locals h₁ (its ++ n₁) := fun p hp => by
      rcases List.mem_append.mp hp with hp | hp
      · have h1 : p.1 ∈ ws.map (·.1) := by rw [← hmap]; exact List.mem_map.mpr ⟨p, hp, rfl⟩
        exact N₁ _ (List.mem_append_left _ (hall p.1 (hws _ h1).1 (hws _ h1).2 p.2 (hval p hp)))
      · exact N₁ _ (List.mem_append_right _ hp)
    refine wpAny_mono ((turn i v m₁ n₁ h₁ tk₁ hin hPi hj F₁).at hits N₂) (fun _ s₂ h₂ => wpAny_mono h₂ (fun f s₃ q => ?_) fun _ _ e => e) fun _ _ e => e
    have fin : (∃ h' tk' m' n', s₃ = { s with heap := h', toks := tk' } ∧ Fr h₀ env.locals h' m' ∧ News h₀ env.locals h' (its ++ n') ∧ J (i + 1) m' n') → LoopStepU h₀ env.locals wr own (J (i + 1)) { s with heap := h₁, toks := tk₁ } .next s₃ := by
      rintro ⟨h', tk', m', n', e, F', N', hj'⟩
      refine ⟨rfl, h', tk', m', n', e, F', fun p hp => ?_, hwr' hj', hj'⟩
      rcases List.mem_append.mp hp with hp | hp
      · have h2 : h₁.get? p.1 = some p.2 := hget p hp
        rcases hfp p.1 (hown _ hp) with h3 | ⟨o, h3⟩ | ⟨o, h3⟩
        · have h4 : p.1 ∈ its.map (·.1) := by rw [hmap]; exact h3
          obtain ⟨q, hq, hqe⟩ := List.mem_map.mp h4
          have h5 := hval q hq
          have h6 : q = p := Prod.ext hqe (Option.some.inj (h5.symm.trans (by rw [hqe]; exact h2)))
          rw [← h6]; exact N' _ (List.mem_append_left _ hq)
        · have h4 := (N₁ _ (List.mem_append_right _ (hj2 _ h3))).1
          have h6 : (p.1, o) = p := Prod.ext rfl (Option.some.inj (h4.symm.trans h2))
          rw [← h6]; exact N' _ (List.mem_append_right _ ((hJ _ _ _ hj').2 _ h3))
        · have h4 := (N₁ _ (List.mem_append_left _ hp)).2.2
          rw [h3] at h4; cases h4
      · exact N' _ (List.mem_append_right _ hp)
    cases f with
    | ret v => exact q
    | brk => exact q
    | next => exact fin q
    | cont => exact fin q
  · intro h' tk m' news' F' N' _ hj
    exact done m' news' h' tk hj F' N'
end
end Mine
end

section
open PySem PySem.W PyProof.Rows PySem.Calls
set_option Elab.async false
set_option maxRecDepth 100000
set_option linter.unusedVariables false
namespace Mine
section
variable {prog : Program} {w : World} {A : Around} {E : Value → Shared → Prop} {s : Shared} {env : Env} {h₀ : Heap} {body : List Stmt} {Q : Flow → Shared → Prop} {x : Str} {px : Pos} {m₀ : Str → Option Value} {news : List (Addr × Obj)}
theorem rev_turns {I ax : Addr} {lo : Obj} {vs : List Value} {k : Nat} (hh : A.handled = none) (F : Fr h₀ env.locals s.heap m₀) (N : News h₀ env.locals s.heap ((I, revObj ax ((vs.length : Int) - 1)) :: news)) (hm : (ax, lo) ∈ news) (hc : lo.cls = .type "list") (hd : lo.data = .seq vs.toArray k)
    (J : Nat → (Str → Option Value) → List (Addr × Obj) → Prop) (h0 : J 0 m₀ news) (hJ : ∀ i m n, J i m n → (∀ p ∈ n, p.1 ≠ I) ∧ (ax, lo) ∈ n)
    (turn : ∀ i v m₁ n₁ h tk it, i < vs.length → vs[vs.length - 1 - i]? = some v → J i m₁ n₁ → it.cls = .type "list_reverseiterator" → Fr h₀ env.locals h m₁ → News h₀ env.locals h ((I, it) :: n₁) →
      wpAny (model prog w) A (assign (.Name x px) env v) (fun _ s₃ => wpAny (model prog w) A (execs body env) (TEnd h₀ env.locals [(I, it)] (J (i + 1)) { s with heap := h, toks := tk } Q) E s₃) E { s with heap := h, toks := tk })
    (done : ∀ m₁ n₁ h tk, J vs.length m₁ n₁ → Fr h₀ env.locals h m₁ → News h₀ env.locals h n₁ → Q .next { s with heap := h, toks := tk }) :
    wpAny (model prog w) A (pyIter (.ref I)) (fun it s₂ => TurnsAt prog w A h₀ env (.Name x px) body Q E it s₂) E s := by
  have hIx := N _ (List.mem_cons_self ..)
  have hax := N _ (List.mem_cons_of_mem _ hm)
  have hl : s.heap.IsList ax vs.toArray := ⟨lo, hax.1, hc, k, hd⟩
  have hne : ax ≠ I := (hJ _ _ _ h0).1 _ hm
  have hit : s.heap.IsRevIter I ax ((vs.length : Int) - 1) := ⟨_, hIx.1, rfl, rfl⟩
  refine wpAny_pyIter_revIter hit ?_
  have hlen : vs.toArray.size = vs.length := by simp
  refine turns_J (tk0 := s.toks) (ws := [(I, "list_reverseiterator")]) (keep := [(ax, lo)]) (KTurns.ofWalks (Walks.listRev hh I ax hne vs.toArray) fun i v s Q E st q => wpAny_pure q)
    ?_ ?_ ?_ ?_ ?_ ⟨Nat.zero_le _, ?_, hl⟩ F (fun p hp => N p (List.mem_cons_of_mem _ hp)) J h0 (fun i m₁ n₁ hj => ⟨fun p hp hq => (hJ _ _ _ hj).1 p hp (by simpa using hq), fun p hp => by rw [List.mem_singleton.mp hp]; exact (hJ _ _ _ hj).2⟩) ?_ ?_
  · rintro i h ⟨_, ⟨it, h1, h2, h3⟩, _⟩
    exact ⟨[(I, it)], ⟨⟨rfl, h2⟩, trivial⟩, fun p hp => by rw [List.mem_singleton.mp hp]; exact h1⟩
  · intro b hb
    have e : b = I := by simpa using hb
    subst e
    exact ⟨by simp, hIx.2.2⟩
  · intro b hb; simpa using hb
  · intro b hb
    rcases List.mem_cons.mp hb with e | hb
    · exact .inl (by simp [e])
    · exact .inr (.inl ⟨lo, by rw [List.mem_singleton.mp hb]; simp⟩)
  · intro hm
    rcases List.mem_cons.mp hm with e | hm
    · exact hIx.2.1 e.symm
    · exact hax.2.1 (List.mem_singleton.mp hm).symm
  · rw [hlen]; simpa using hit
  · intro i v m₁ n₁ h tk hi hP hj F₁
    rw [hlen] at hi
    have hP' : vs[vs.length - 1 - i]? = some v := by
      have : vs.toArray[vs.toArray.size - 1 - i]? = some v := hP
      rw [hlen] at this; simpa using this
    exact fun it hit => fun N₁ => turn i v m₁ n₁ h tk it hi hP' hj hit F₁ N₁
  · intro m₁ n₁ h tk hj F₁ N₁
    rw [hlen] at hj
    exact done m₁ n₁ h tk hj F₁ N₁

abbrev dvMap (m₀ : Str → Option Value) (u1 u2 : Option Value) (r : Int) (tr : Tok) : Str → Option Value :=
  fun y => if y = Str.ofString "r" then some (.int r tr) else if y = Str.ofString "a_digit" then u1 else if y = Str.ofString "q_digit" then u2 else m₀ y
def DvEnd (h₀ : Heap) (L I : Addr) (it : Obj) (gg : Obj → List (Addr × Obj)) (m₀ : Str → Option Value) (Inv : List Int → Int → Prop) (s : Shared) (f : Flow) (s₂ : Shared) : Prop :=
  f = .next ∧ ∃ h' tk' m' lv ep qs r tr, s₂ = { s with heap := h', toks := tk' } ∧ Fr h₀ L h' m' ∧ News h₀ L h' ((I, it) :: gg (listOf (List.toArray lv) ep)) ∧ IntsAre lv qs ∧ Inv qs r ∧ m' (Str.ofString "r") = some (.int r tr) ∧
    ∀ y, y ≠ Str.ofString "r" → y ≠ Str.ofString "a_digit" → y ≠ Str.ofString "q_digit" → m' y = m₀ y
theorem dv_turns {I l lq : Addr} {vs : List Value} {ds : List Int} {ep e0 : Nat} {tr₀ : Tok} {gg : Obj → List (Addr × Obj)} (Inv : Nat → List Int → Int → Prop) (hh : A.handled = none) (F : Fr h₀ env.locals s.heap m₀)
    (N : News h₀ env.locals s.heap ((I, revObj l ((vs.length : Int) - 1)) :: news)) (hoff : ∀ p ∈ news, p.1 < I) (hm : (l, listOf (List.toArray vs) ep) ∈ news) (hi : IntsAre vs ds) (U : UpdF lq (listOf (List.toArray []) e0) news gg) (hne : l ≠ lq)
    (hr : m₀ (Str.ofString "r") = some (.int 0 tr₀)) (h0 : Inv 0 [] 0)
    (turn : ∀ i d t lv ep' qs r tr u1 u2 it h tk, i < ds.length → ds[ds.length - 1 - i]? = some d → Inv i qs r → IntsAre lv qs → it.cls = .type "list_reverseiterator" → Fr h₀ env.locals h (dvMap m₀ u1 u2 r tr) → News h₀ env.locals h ((I, it) :: gg (listOf (List.toArray lv) ep')) →
      wpAny (model prog w) A (assign (.Name x px) env (.int d t)) (fun _ s₃ => wpAny (model prog w) A (execs body env) (DvEnd h₀ env.locals I it gg m₀ (Inv (i + 1)) s) E s₃) E { s with heap := h, toks := tk })
    (done : ∀ lv ep' qs r tr u1 u2 h tk, Inv ds.length qs r → IntsAre lv qs → Fr h₀ env.locals h (dvMap m₀ u1 u2 r tr) → News h₀ env.locals h (gg (listOf (List.toArray lv) ep')) → Q .next { s with heap := h, toks := tk }) :
    wpAny (model prog w) A (pyIter (.ref I)) (fun it s₂ => TurnsAt prog w A h₀ env (.Name x px) body Q E it s₂) E s := by
  obtain ⟨own, rest, e1, hg, h1, h2⟩ := U.split
  have hlen : vs.length = ds.length := hi.length
  have mapEq : ∀ {m₁ : Str → Option Value} {r : Int} {tr : Tok}, m₁ (Str.ofString "r") = some (.int r tr) → (∀ y, y ≠ Str.ofString "r" → y ≠ Str.ofString "a_digit" → y ≠ Str.ofString "q_digit" → m₁ y = m₀ y) →
      m₁ = dvMap m₀ (m₁ (Str.ofString "a_digit")) (m₁ (Str.ofString "q_digit")) r tr := by
    intro m₁ r tr a b
    funext y
    by_cases c1 : y = Str.ofString "r"
    · subst c1; simp [dvMap, a]
    · by_cases c2 : y = Str.ofString "a_digit"
      · subst c2; simp [dvMap, c1]
      · by_cases c3 : y = Str.ofString "q_digit"
        · subst c3; simp [dvMap, c1, c2]
        · simp [dvMap, c1, c2, c3, b y c1 c2 c3]
  refine rev_turns hh F N hm rfl rfl (fun i m n => ∃ lv ep' qs r tr, n = gg (listOf (List.toArray lv) ep') ∧ IntsAre lv qs ∧ Inv i qs r ∧ m (Str.ofString "r") = some (.int r tr) ∧ ∀ y, y ≠ Str.ofString "r" → y ≠ Str.ofString "a_digit" → y ≠ Str.ofString "q_digit" → m y = m₀ y)
    ⟨[], e0, [], 0, tr₀, ?_, .nil, h0, hr, fun _ _ _ _ => rfl⟩ ?_ ?_ ?_
  · rw [hg]; exact e1
  · rintro i m n ⟨lv, ep', qs, r, tr, rfl, _⟩
    have sub : ∀ p ∈ gg (listOf (List.toArray lv) ep'), p.1 = lq ∨ p ∈ news := by
      intro p hp
      rw [hg] at hp
      rw [e1]
      rcases List.mem_append.mp hp with hp | hp
      · exact .inr (List.mem_append_left _ hp)
      · rcases List.mem_cons.mp hp with rfl | hp
        · exact .inl rfl
        · exact .inr (List.mem_append_right _ (.tail _ hp))
    refine ⟨fun p hp => ?_, ?_⟩
    · rcases sub p hp with e | hp
      · rw [e]
        exact Nat.ne_of_lt (hoff (lq, listOf (List.toArray []) e0) (by rw [e1]; exact List.mem_append_right _ (.head _)))
      · exact Nat.ne_of_lt (hoff p hp)
    · rw [hg]
      rw [e1] at hm
      rcases List.mem_append.mp hm with hm | hm
      · exact List.mem_append_left _ hm
      · rcases List.mem_cons.mp hm with e | hm
        · exact absurd (congrArg Prod.fst e) hne
        · exact List.mem_append_right _ (.tail _ hm)
  · rintro i v m₁ n₁ h tk it hlt hv ⟨lv, ep', qs, r, tr, rfl, a1, a2, a3, a4⟩ hcls F₁ N₁
    obtain ⟨d, t, rfl, hd⟩ := hi.at _ _ hv
    rw [hlen] at hd hlt
    rw [mapEq a3 a4] at F₁
    refine wpAny_mono (turn i d t lv ep' qs r tr _ _ it h tk hlt hd a2 a1 hcls F₁ N₁) (fun _ s₂ h₂ => wpAny_mono h₂ (fun f s₃ q => ?_) fun _ _ e => e) fun _ _ e => e
    obtain ⟨rfl, h', tk', m', lv', ep2, qs', r', tr', rfl, b1, b2, b3, b4, b5, b6⟩ := q
    exact ⟨h', tk', m', _, rfl, b1, b2, lv', ep2, qs', r', tr', rfl, b3, b4, b5, b6⟩
  · rintro m₁ n₁ h tk ⟨lv, ep', qs, r, tr, rfl, a1, a2, a3, a4⟩ F₁ N₁
    rw [mapEq a3 a4] at F₁
    rw [hlen] at a2
    exact done lv ep' qs r tr _ _ h tk a2 a1 F₁ N₁
end

section
variable {prog : Program} {w : World} {A : Around} {E : Value → Shared → Prop} {s : Shared} {h₀ : Heap} {L : Addr} {m : Str → Option Value} {news : List (Addr × Obj)} {Q : Value → Shared → Prop}
theorem upd_of {d : Addr} {o o' : Obj} {l : List (Addr × Obj)} {gg : Obj → List (Addr × Obj)} (U : UpdF d o l gg) : Upd d o o' l (gg o') := by
  induction U with
  | head h => exact .head h
  | tail h _ ih => exact .tail h ih
theorem line_of_len {vs : List Value} {ns : List Int} (h : IntsAre vs ns) (h0 : ns.length ≤ 1000000) : vs.toArray.size ≤ sizeLine := by
  rw [List.size_toArray, h.length, sizeLine_eq]; lia
theorem g_append {D : Addr} {vs : List Value} {ns : List Int} {n : Nat} {x : Int} {t : Tok} {gg : Obj → List (Addr × Obj)} (F : Fr h₀ L s.heap m) (N : News h₀ L s.heap news) (U : UpdF D (listOf (List.toArray vs) n) news gg) (hI : IntsAre vs ns) (h0 : Owe (ns.length ≤ 1000000))
    (h : ∀ h' vs' ep, IntsAre vs' (ns ++ [x]) → Fr h₀ L h' m → News h₀ L h' (gg (listOf (List.toArray vs') ep)) → Q .none { s with heap := h' }) : wpAny (model prog w) A (call (.builtin "list.append") [.ref D, .int x t]) Q E s := by
  refine append_K F N (upd_of U) (fun h' F' N' => h h' (vs ++ [.int x t]) (n + 1) (hI.append (.cons x t .nil)) F' ?_) (line_of_len hI h0.out)
  have e : (List.toArray vs).push (.int x t) = List.toArray (vs ++ [.int x t]) := by simp
  rw [← e]; exact N'
theorem g_reverse {D : Addr} {vs : List Value} {ns : List Int} {n : Nat} {gg : Obj → List (Addr × Obj)} (F : Fr h₀ L s.heap m) (N : News h₀ L s.heap news) (U : UpdF D (listOf (List.toArray vs) n) news gg) (hI : IntsAre vs ns) (h0 : Owe (ns.length ≤ 1000000))
    (h : ∀ h' vs', IntsAre vs' ns.reverse → Fr h₀ L h' m → News h₀ L h' (gg (listOf (List.toArray vs') n)) → Q .none { s with heap := h' }) : wpAny (model prog w) A (call (.builtin "list.reverse") [.ref D]) Q E s := by
  refine kl_reverse F N (l := vs.reverse) (by simp) (upd_of U) ?_ (fun h' F' N' => h h' vs.reverse (PyProof.Rows.IntsAre.reverse hI) F' N')
  have := line_of_len hI h0.out
  simpa using this
end
end Mine
end

section
open PySem PySem.W PyProof.Rows PySem.Calls
set_option Elab.async false
set_option maxRecDepth 100000
set_option linter.unusedVariables false
namespace Mine
def AllNe (d : Nat) : List (Addr × Obj) → Prop
  | [] => True
  | p :: r => @Ne Nat p.1 d ∧ AllNe d r
theorem allNe_of {d : Addr} : ∀ {l : List (Addr × Obj)}, (∀ p ∈ l, p.1 ≠ d) → AllNe d l
  | [], _ => trivial
  | p :: _, h => ⟨h p (.head _), allNe_of fun q hq => h q (.tail _ hq)⟩
theorem ne_of_fresh {h₀ h : Heap} {L T : Addr} {news : List (Addr × Obj)} (N : News h₀ L h news) (e : h.get? T = none) : ∀ p ∈ news, p.1 ≠ T := fun p hp q => by
  have := (N p hp).1; rw [q, e] at this; cases this
section
variable {w : World} {p : Program} {loose : List Str} {mean : ExcName → Option Value} {mg mb : Str → Option Value}
  {dp un : Nat} {gd : Option (List Code)} {cn : Str} {cs : Scope} {ad : Addr} {ccd : Value} {cl : List (Str × Addr)} {outer : List Env} {A₀ : Around} {base h₀ : Heap} {L : Addr} {m : Str → Option Value} {news : List (Addr × Obj)} {s : Shared} {Q E : Value → Shared → Prop}
abbrev tab1 (x y : Int) (c : Addr) : Obj := tabObj #[rawInt x, rawInt y, .ref c]
theorem tab_at {P : Addr} {o : Obj} {gg : Obj → List (Addr × Obj)} {h : Heap} (N : News h₀ L h news) (U : UpdF P o news gg) : h.get? P = some o := by
  obtain ⟨own, rest, e, _⟩ := U.split
  subst e
  exact (N (P, o) (List.mem_append_right _ (.head _))).1
theorem use_i2_hit {a : Int} {n : Nat} {ta tn : Tok} {c' : Addr} {gg : Obj → List (Addr × Obj)} (B : Below A₀ base outer h₀) (F : Fr h₀ L s.heap m) (X : (Mine.hd.heap_39 w.params).In h₀) (T : Top p loose mean mg mb h₀) (hk : cs.kind = .function)
    (N : News h₀ L s.heap news) (U : UpdF 73 (tab1 49 4 c') news gg) (hc : s.heap.CodeRec (.ref c') q73) (h0 : Owe (I2Ok a n ∧ dp + 10 < recursionLimit ∧ un + 200 < cLine))
    (h : ∀ l its ep h' tk', IntsAre its (digs n (nd a n) a) → Fr h₀ L h' m → News h₀ L h' ((l, listOf (List.toArray its) ep) :: gg (tab1 49 4 c')) → (∀ p ∈ news, p.1 ≠ l) → Q (.ref l) { s with heap := h', toks := tk' }) :
    wpAny (model PySem.Challenge.rw_xg0080_01.row.prog w) (ktrTop dp un gd cn cs L ad ccd cl outer) (call (.ref 78) [.int a ta, .int (n : Int) tn]) Q E s := by
  obtain ⟨o1, o2, o3⟩ := h0.out
  have hP := tab_at N U
  refine con_useU (i2d a n ta tn o1) B F X T hk o2 o3 N U ⟨_, hP, .inr ⟨c', rfl, hc⟩⟩ (fun r h' hp => ?_) fun r o' h' tk' _ e1 hp F' N' => ?_
  · exact ⟨_, hp.1.2 c' hP⟩
  · obtain ⟨tp, l, its, ep, rfl, hf, hg, hi⟩ := hp
    have e2 := tp.2 c' hP
    rw [e1] at e2
    cases e2
    have hfr := fresh_of F hf
    refine h l its ep h' tk' hi F' (fun q hq => ?_) (ne_of_fresh N hf)
    rcases List.mem_cons.mp hq with rfl | hq
    · exact ⟨hg, hfr.2, hfr.1⟩
    · exact N' q hq
theorem use_i2_miss {a : Int} {n : Nat} {ta tn : Tok} {gg : Obj → List (Addr × Obj)} (B : Below A₀ base outer h₀) (F : Fr h₀ L s.heap m) (X : (Mine.hd.heap_39 w.params).In h₀) (T : Top p loose mean mg mb h₀) (hk : cs.kind = .function)
    (N : News h₀ L s.heap news) (U : UpdF 73 (tabObj #[]) news gg) (h0 : Owe (I2Ok a n ∧ dp + 10 < recursionLimit ∧ un + 200 < cLine))
    (h : ∀ l its ep c' oc vs t h' tk', IntsAre its (digs n (nd a n) a) → oc.data = .fields vs → vs[1]? = some (.str q73 t) → Fr h₀ L h' m → News h₀ L h' ((l, listOf (List.toArray its) ep) :: (c', oc) :: gg (tab1 49 4 c')) → (∀ p ∈ news, p.1 ≠ l) → (∀ p ∈ news, p.1 ≠ c') → Q (.ref l) { s with heap := h', toks := tk' }) :
    wpAny (model PySem.Challenge.rw_xg0080_01.row.prog w) (ktrTop dp un gd cn cs L ad ccd cl outer) (call (.ref 78) [.int a ta, .int (n : Int) tn]) Q E s := by
  obtain ⟨o1, o2, o3⟩ := h0.out
  have hP := tab_at N U
  refine con_useU (i2d a n ta tn o1) B F X T hk o2 o3 N U ⟨_, hP, .inl rfl⟩ (fun r h' hp => ?_) fun r o' h' tk' _ e1 hp F' N' => ?_
  · obtain ⟨c', oc, vs, t, _, _, _, _, e⟩ := hp.1.1 hP
    exact ⟨_, e⟩
  · obtain ⟨tp, l, its, ep, rfl, hf, hg, hi⟩ := hp
    obtain ⟨c', oc, vs, t, f1, f2, f3, f4, e2⟩ := tp.1 hP
    rw [e1] at e2
    cases e2
    have hfr := fresh_of F hf
    have hfc := fresh_of F f1
    refine h l its ep c' oc vs t h' tk' hi f3 f4 F' (fun q hq => ?_) (ne_of_fresh N hf) (ne_of_fresh N f1)
    rcases List.mem_cons.mp hq with rfl | hq
    · exact ⟨hg, hfr.2, hfr.1⟩
    · rcases List.mem_cons.mp hq with rfl | hq
      · exact ⟨f2, hfc.2, hfc.1⟩
      · exact N' q hq
theorem use_d1_hit {l : Addr} {lv : List Value} {ep : Nat} {ds : List Int} {n : Nat} {tn : Tok} {c' : Addr} {gg : Obj → List (Addr × Obj)} (B : Below A₀ base outer h₀) (F : Fr h₀ L s.heap m) (X : (Mine.hd.heap_39 w.params).In h₀) (T : Top p loose mean mg mb h₀) (hk : cs.kind = .function)
    (N : News h₀ L s.heap news) (U : UpdF 80 (tab1 64 4 c') news gg) (hm : (l, listOf (List.toArray lv) ep) ∈ news) (hI : IntsAre lv ds) (hc : s.heap.CodeRec (.ref c') q80) (h0 : Owe (D1Ok ds n ∧ dp + 10 < recursionLimit ∧ un + 200 < cLine))
    (h : ∀ t h' tk', Fr h₀ L h' m → News h₀ L h' (gg (tab1 64 4 c')) → Q (.int (val n ds) t) { s with heap := h', toks := tk' }) :
    wpAny (model PySem.Challenge.rw_xg0080_01.row.prog w) (ktrTop dp un gd cn cs L ad ccd cl outer) (call (.ref 85) [.ref l, .int (n : Int) tn]) Q E s := by
  obtain ⟨o1, o2, o3⟩ := h0.out
  have hP := tab_at N U
  refine con_useU (d1d l ds n tn o1) B F X T hk o2 o3 N U ⟨⟨_, hP, .inr ⟨c', rfl, hc⟩⟩, lv, ⟨_, (N _ hm).1, rfl, _, rfl⟩, hI⟩ (fun r h' hp => ⟨_, hp.1.2 c' hP⟩) fun r o' h' tk' _ e1 hp F' N' => ?_
  obtain ⟨tp, t, rfl⟩ := hp
  have e2 := tp.2 c' hP
  rw [e1] at e2
  cases e2
  exact h t h' tk' F' N'
theorem use_d1_miss {l : Addr} {lv : List Value} {ep : Nat} {ds : List Int} {n : Nat} {tn : Tok} {gg : Obj → List (Addr × Obj)} (B : Below A₀ base outer h₀) (F : Fr h₀ L s.heap m) (X : (Mine.hd.heap_39 w.params).In h₀) (T : Top p loose mean mg mb h₀) (hk : cs.kind = .function)
    (N : News h₀ L s.heap news) (U : UpdF 80 (tabObj #[]) news gg) (hm : (l, listOf (List.toArray lv) ep) ∈ news) (hI : IntsAre lv ds) (h0 : Owe (D1Ok ds n ∧ dp + 10 < recursionLimit ∧ un + 200 < cLine))
    (h : ∀ t c' oc vs tc h' tk', oc.data = .fields vs → vs[1]? = some (.str q80 tc) → Fr h₀ L h' m → News h₀ L h' ((c', oc) :: gg (tab1 64 4 c')) → (∀ p ∈ news, p.1 ≠ c') → Q (.int (val n ds) t) { s with heap := h', toks := tk' }) :
    wpAny (model PySem.Challenge.rw_xg0080_01.row.prog w) (ktrTop dp un gd cn cs L ad ccd cl outer) (call (.ref 85) [.ref l, .int (n : Int) tn]) Q E s := by
  obtain ⟨o1, o2, o3⟩ := h0.out
  have hP := tab_at N U
  refine con_useU (d1d l ds n tn o1) B F X T hk o2 o3 N U ⟨⟨_, hP, .inl rfl⟩, lv, ⟨_, (N _ hm).1, rfl, _, rfl⟩, hI⟩ (fun r h' hp => ?_) fun r o' h' tk' _ e1 hp F' N' => ?_
  · obtain ⟨c', oc, vs, t, _, _, _, _, e⟩ := hp.1.1 hP
    exact ⟨_, e⟩
  · obtain ⟨tp, t, rfl⟩ := hp
    obtain ⟨c', oc, vs, tc, f1, f2, f3, f4, e2⟩ := tp.1 hP
    rw [e1] at e2
    cases e2
    have hfc := fresh_of F f1
    refine h t c' oc vs tc h' tk' f3 f4 F' (fun q hq => ?_) (ne_of_fresh N f1)
    rcases List.mem_cons.mp hq with rfl | hq
    · exact ⟨f2, hfc.2, hfc.1⟩
    · exact N' q hq
theorem codeRec_in {h : Heap} {c' : Addr} {oc : Obj} {vs : Array Value} {q : Str} {t : Tok} (N : News h₀ L h news) (hm : (c', oc) ∈ news) (hd : oc.data = .fields vs) (hv : vs[1]? = some (.str q t)) : h.CodeRec (.ref c') q := ⟨c', oc, vs, t, rfl, (N _ hm).1, hd, hv⟩
end
end Mine
end

section
open PySem PySem.W PyProof.Rows
set_option Elab.async false
set_option linter.unusedVariables false
namespace Mine
theorem val_digs (n : Nat) : ∀ k x, val n (digs n (k + 1) x) = x
  | 0, x => by simp [digs, val]
  | k + 1, x => by
    rw [digs, val, val_digs n k]
    have := ediv_emod x (2 ^ n)
    rw [Int.mul_comm] at this; lia
theorem digs_all (n : Nat) : ∀ k x, 0 ≤ x → x < 2 ^ (n * (k + 1)) → ∀ d ∈ digs n (k + 1) x, 0 ≤ d ∧ d < 2 ^ n
  | 0, x, h0, h1, d, hd => by
    have e : d = x := by simpa [digs] using hd
    rw [e]; exact ⟨h0, by simpa using h1⟩
  | k + 1, x, h0, h1, d, hd => by
    have hp := pow_pos' n
    rw [digs] at hd
    rcases List.mem_cons.mp hd with rfl | hd
    · exact ⟨Int.emod_nonneg _ (by lia), Int.emod_lt_of_pos _ hp⟩
    · refine digs_all n k (x / 2 ^ n) (Int.ediv_nonneg h0 (Int.le_of_lt hp)) (Int.ediv_lt_of_lt_mul hp ?_) d hd
      rw [← Int.pow_add]
      have : n * (k + 1) + n = n * (k + 1 + 1) := by rw [Nat.mul_add n (k + 1)]; lia
      rw [this]; exact h1
theorem nd_facts {a : Int} {n : Nat} (h : I2Ok a n) : (∀ d ∈ digs n (nd a n) a, 0 ≤ d ∧ d < 2 ^ n) ∧ val n (digs n (nd a n) a) = a ∧ (digs n (nd a n) a).length = nd a n ∧ 1 ≤ nd a n ∧ nd a n ≤ 64 := by
  obtain ⟨h1, h2, h3, h4, h5⟩ := h
  obtain ⟨h6, h7⟩ := nd_pos h1 h2
  obtain ⟨k, hk⟩ : ∃ k, nd a n = k + 1 := ⟨nd a n - 1, by lia⟩
  have hb : Builtin.Int.intBits a ≤ n * (k + 1) := by
    have e := ediv_emod ((Builtin.Int.intBits a : Int) + n - 1) n
    have r1 := Int.emod_lt_of_pos ((Builtin.Int.intBits a : Int) + n - 1) (show (0 : Int) < n by lia)
    have e2 : ((Builtin.Int.intBits a : Int) + n - 1) / n = ((k + 1 : Nat) : Int) := by unfold nd at hk; lia
    rw [e2, ← Int.natCast_mul, Nat.mul_comm] at e
    lia
  have hx := lt_of_bits (Int.le_of_lt h1) hb
  rw [hk]
  exact ⟨digs_all n k a (Int.le_of_lt h1) hx, val_digs n k a, digs_length _ _ _, by lia, by lia⟩
def DvInv (b : Int) (n : Nat) (ds : List Int) (i : Nat) (qs : List Int) (r : Int) : Prop :=
  0 ≤ r ∧ r < b ∧ qs.length = i ∧ (∀ q ∈ qs, 0 ≤ q ∧ q < 2 ^ n) ∧ val n qs.reverse * b + r = val n (ds.drop (ds.length - i))
theorem bits_lower {b : Int} (hb : 0 < b) : 1 ≤ Builtin.Int.intBits b ∧ 2 ^ (Builtin.Int.intBits b - 1) ≤ b := by
  unfold Builtin.Int.intBits
  have h0 : (b == 0) = false := by simpa using (show b ≠ 0 by lia)
  rw [h0]
  simp only [Bool.false_eq_true, if_false]
  refine ⟨by lia, ?_⟩
  have h1 : b.natAbs ≠ 0 := by lia
  have h2 := Nat.log2_self_le h1
  have e : b.natAbs.log2 + 1 - 1 = b.natAbs.log2 := by lia
  rw [e, ← kbt_cast]
  generalize 2 ^ b.natAbs.log2 = c at h2 ⊢
  lia
/-- what _divmod_pos is asked over -/
def DpOk (a b : Int) : Prop := 0 < b ∧ Builtin.Int.intBits b ≤ 8100 ∧ I2Ok a (Builtin.Int.intBits b)
theorem dv_step {a b : Int} {i : Nat} {qs : List Int} {r d : Int} (h : DpOk a b) (inv : DvInv b (Builtin.Int.intBits b) (digs (Builtin.Int.intBits b) (nd a (Builtin.Int.intBits b)) a) i qs r)
    (hi : i < (digs (Builtin.Int.intBits b) (nd a (Builtin.Int.intBits b)) a).length)
    (hd : (digs (Builtin.Int.intBits b) (nd a (Builtin.Int.intBits b)) a)[(digs (Builtin.Int.intBits b) (nd a (Builtin.Int.intBits b)) a).length - 1 - i]? = some d) :
    (0 ≤ (Builtin.Int.intBits b : Int) ∧ (Builtin.Int.intBits r : Int) + (Builtin.Int.intBits b : Int) ≤ 2 ^ 27) ∧ qs.length ≤ 1000000 ∧
    D2Ok 2 (r * 2 ^ (Builtin.Int.intBits b : Int).toNat + d) b (Builtin.Int.intBits b : Int) ∧
    ∀ q' r', q' = (r * 2 ^ (Builtin.Int.intBits b : Int).toNat + d) / b → r' = (r * 2 ^ (Builtin.Int.intBits b : Int).toNat + d) % b →
      DvInv b (Builtin.Int.intBits b) (digs (Builtin.Int.intBits b) (nd a (Builtin.Int.intBits b)) a) (i + 1) (qs ++ [q']) r' := by
  obtain ⟨hb, hn, hok⟩ := h
  obtain ⟨f1, f2, f3, f4, f5⟩ := nd_facts hok
  obtain ⟨l1, l2⟩ := bits_lower hb
  have hbn : b < 2 ^ Builtin.Int.intBits b := lt_of_bits (Int.le_of_lt hb) (Nat.le_refl _)
  obtain ⟨i1, i2, i3, i4, i5⟩ := inv
  generalize hds : digs (Builtin.Int.intBits b) (nd a (Builtin.Int.intBits b)) a = ds at *
  obtain ⟨d0, d1⟩ := f1 d (List.mem_of_getElem? hd)
  have hrb := bits_mono i1 (Int.le_of_lt i2) (Nat.le_refl _)
  generalize Builtin.Int.intBits b = n at *
  have hp := pow_pos' n
  simp only [Int.toNat_natCast]
  have x0 : 0 ≤ r * 2 ^ n + d := by have := Int.mul_nonneg i1 (Int.le_of_lt hp); lia
  have x1 : r * 2 ^ n + d < b * 2 ^ n := by
    have := Int.mul_le_mul_of_nonneg_right (show r ≤ b - 1 by lia) (Int.le_of_lt hp)
    rw [Int.sub_mul, Int.one_mul] at this; lia
  have e1 : ((n : Int) - 1).toNat = n - 1 := by lia
  refine ⟨⟨by lia, by lia⟩, by lia, ⟨x0, by lia, by lia, by lia, by rw [e1]; exact l2, by simpa using hbn, by rw [Int.toNat_natCast]; exact x1⟩, ?_⟩
  rintro q' r' rfl rfl
  have ex := ediv_emod (r * 2 ^ n + d) b
  have q0 : 0 ≤ (r * 2 ^ n + d) / b := Int.ediv_nonneg x0 (Int.le_of_lt hb)
  have q1 : (r * 2 ^ n + d) / b < 2 ^ n := Int.ediv_lt_of_lt_mul hb (by rw [Int.mul_comm (2 ^ n) b]; exact x1)
  refine ⟨Int.emod_nonneg _ (by lia), Int.emod_lt_of_pos _ hb, by simp; lia, ?_, ?_⟩
  · intro q hq
    rcases List.mem_append.mp hq with hq | hq
    · exact i4 q hq
    · rw [List.mem_singleton.mp hq]; exact ⟨q0, q1⟩
  · have e2 : ds.drop (ds.length - (i + 1)) = d :: ds.drop (ds.length - i) := by
      have hlt : ds.length - 1 - i < ds.length := by lia
      have e3 : ds.length - (i + 1) = ds.length - 1 - i := by lia
      have e4 : ds.length - i = ds.length - 1 - i + 1 := by lia
      rw [e3, e4, List.drop_eq_getElem_cons hlt]
      congr 1
      exact Option.some.inj ((List.getElem?_eq_getElem hlt).symm.trans hd)
    rw [e2, List.reverse_append, val, ← i5]
    show ((r * 2 ^ n + d) / b + 2 ^ n * val n qs.reverse) * b + _ = _
    rw [Int.add_mul, Int.mul_add, Int.mul_assoc]
    generalize (r * 2 ^ n + d) / b * b = z at ex ⊢
    rw [Int.mul_comm r] at ex ⊢
    lia
theorem dv_zero {a b : Int} (h : DpOk a b) : DvInv b (Builtin.Int.intBits b) (digs (Builtin.Int.intBits b) (nd a (Builtin.Int.intBits b)) a) 0 [] 0 := by
  refine ⟨by lia, h.1, rfl, ?_, ?_⟩
  · intro q hq; cases hq
  · simp [val]
theorem dv_done {a b : Int} {qs : List Int} {r : Int} (h : DpOk a b) (inv : DvInv b (Builtin.Int.intBits b) (digs (Builtin.Int.intBits b) (nd a (Builtin.Int.intBits b)) a) (digs (Builtin.Int.intBits b) (nd a (Builtin.Int.intBits b)) a).length qs r) :
    D1Ok qs.reverse (Builtin.Int.intBits b) ∧ val (Builtin.Int.intBits b) qs.reverse = a / b ∧ r = a % b ∧ qs.length ≤ 1000000 := by
  obtain ⟨hb, hn, hok⟩ := h
  obtain ⟨f1, f2, f3, f4, f5⟩ := nd_facts hok
  obtain ⟨l1, l2⟩ := bits_lower hb
  obtain ⟨i1, i2, i3, i4, i5⟩ := inv
  rw [Nat.sub_self, List.drop_zero, f2] at i5
  have := ediv_emod_of hb i5.symm i1 i2
  refine ⟨⟨by rw [List.length_reverse]; lia, by rw [List.length_reverse]; lia, l1, by lia, fun d hd => i4 d (List.mem_reverse.mp hd)⟩, this.1.symm, this.2.symm, by lia⟩
end Mine
end

section
open PySem PySem.W PyProof.Rows PySem.Calls
set_option Elab.async false
set_option maxRecDepth 100000
set_option linter.unusedVariables false
namespace Mine
section
variable {w : World} {p : Program} {loose : List Str} {mean : ExcName → Option Value} {mg mb : Str → Option Value}
/-- the body of a def of the top's; the objects at W may be changed -/
theorem con_ofK {f : Addr} {vs : List Value} {d u : Nat} {W : List Addr} {Pre : Heap → Prop} {Post : Heap → Value → Heap → Prop}
    {name qual : Str} {params : Arguments} {body : List Stmt} {scope : Scope} {dV kV doc pm cdv ct oc : Value} {an od : Option Addr} {osl : Array (Option Value)} {binds : List (Str × Value)}
    (ho : (Mine.hd.heap_39 w.params).lookup f = some ⟨oc, od, .func (fnOf name qual params body scope dV kV doc pm an cdv ct), osl⟩)
    (hcd : codeIn (Mine.hd.heap_39 w.params) cdv qual = true) (hd1 : 1 ≤ d)
    (hbind : bindArgs (fnOf name qual params body scope dV kV doc pm an cdv ct) ⟨vs, []⟩ = pure binds) (hloc : ∀ y ∈ binds, scope.names.lookup y.1 = some .local)
    (hcell : ∀ x ∈ scope.names, x.2 ≠ .cell) (hco : scope.isCoroutine = false) (hgen : scope.isGenerator = false) (hk : scope.kind = .function)
    (h : ∀ (dp un : Nat) (gd : Option (List Code)) (outer : List Env) (A₀ : Around) (base H g : Heap) (L' : Addr) (h₁ : Heap) (s : Shared) (Q E : Value → Shared → Prop),
      g = hideAll H W → L' = H.objs.size → Below A₀ base outer g → Fr g L' h₁ (fun y => binds.reverse.lookup y) → (∀ b o, H.get? b = some o → h₁.get? b = some o) →
      (Mine.hd.heap_39 w.params).In g → Top p loose mean mg mb g → dp + d ≤ recursionLimit → un + u < cLine + 3 → Pre H →
      (∀ r h' tk', (∀ b o, g.get? b = some o → h'.get? b = some o) → Post H r h' → Q r { s with heap := h', toks := tk' }) →
      wpAny (model PySem.Challenge.rw_xg0080_01.row.prog w) (ktrTop dp un gd qual scope L' f cdv [] outer) (execs body (envOf qual scope L' f cdv))
        (fun fl s' => Q (match fl with | .ret v => v | _ => .none) s')
        (fun e s' => wpAny (model PySem.Challenge.rw_xg0080_01.row.prog w) (ktrTop dp un gd qual scope L' f cdv [] outer) (leaving (envOf qual scope L' f cdv) e) (fun _ s'' => E e s'') (fun e' s'' => E e' s'') s')
        { s with heap := h₁, toks := s.toks + binds.length }) :
    Con w p loose mean mg mb f vs d u W Pre Post := by
  intro dp un gd cn cs a ccd cl outer A₀ base h₀ L m s Q E B F X T hkk hdp hun hW hpre hret
  refine wpAny_call ?_
  refine call_W (cl := []) W B F hW T.nolimit rfl rfl hkk ((X.keeps F.keep) _ _ ho) rfl (codeRec_of (X.keeps F.keep) hcd) (by show dp < recursionLimit; omega) (BindsTo.of_eq hbind) hloc (fun g L' h₁ eg eL st F' hk₁ B' => ?_) hcell hco hgen hk
  exact h (dp + 1) (un + 3) gd (envX cn cs L a ccd cl :: outer) _ base s.heap g L' h₁ s Q E eg eL B' F' hk₁ (X.keeps st) (T.keeps st) (by omega) (by omega) hpre
    (fun r h' tk' hk hp => hret r h' tk' (fun b o hb e => hk b o (by rw [eg]; exact hideAll_get _ e hb)) hp)
end
theorem of_allLt {d : Addr} : ∀ {l : List (Addr × Obj)}, AllLt d l → ∀ p ∈ l, p.1 < d
  | [], _, _, h => nomatch h
  | _ :: _, h, q, hq => by
    rcases List.mem_cons.mp hq with rfl | hq
    · exact h.1
    · exact of_allLt h.2 q hq
theorem news_hid {H h₁ g : Heap} {W : List Addr} {L' : Addr} {l : List (Addr × Obj)} (eg : g = hideAll H W) (eL : L' = H.objs.size) (hk : ∀ b o, H.get? b = some o → h₁.get? b = some o) (e : ∀ p ∈ l, p.1 ∈ W ∧ H.get? p.1 = some p.2) : News g L' h₁ l := by
  intro p hp
  obtain ⟨h1, h2⟩ := e p hp
  exact ⟨hk _ _ h2, by rw [eL]; exact Nat.ne_of_lt (Heap.lt_size h2), by rw [eg]; exact hideAll_none _ h1⟩
theorem codeRec_hid {H g : Heap} {W : List Addr} {c' : Addr} {q : Str} (x0 : H.CodeRec (.ref c') q) (eg : g = hideAll H W) (hW : ∀ P ∈ W, ∃ ps : Array Value, H.get? P = some (tabObj ps) ∧ ∀ q t, ps[1]? ≠ some (.str q t)) : g.CodeRec (.ref c') q := by
  obtain ⟨a, o, vs, t, x2, x3, x4, x5⟩ := x0
  cases x2
  refine ⟨_, o, vs, t, rfl, ?_, x4, x5⟩
  rw [eg]
  refine hideAll_get _ x3 fun hm => ?_
  obtain ⟨ps, h1, h2⟩ := hW _ hm
  rw [h1] at x3
  cases x3
  cases x4
  exact h2 _ _ x5
theorem tab1_no {x y : Int} {c : Addr} : ∀ q t, (#[rawInt x, rawInt y, Value.ref c] : Array Value)[1]? ≠ some (.str q t) := by intro q t h; simp [rawInt] at h
theorem tab0_no : ∀ q t, (#[] : Array Value)[1]? ≠ some (.str q t) := by intro q t h; simp at h
theorem d2_all2 {w : World} {p : Program} {loose : List Str} {mean : ExcName → Option Value} {mg mb : Str → Option Value} : D2All w p loose mean mg mb 2 := d23_all d2_step 2
section
variable {prog : Program} {w : World} {A : Around} {E : Value → Shared → Prop} {s : Shared} {env : Env} {h₀ : Heap} {body : List Stmt} {Q : Flow → Shared → Prop} {x : Str} {px : Pos} {m₀ : Str → Option Value} {news : List (Addr × Obj)}
theorem dv_loop {I l lq : Addr} {vs : List Value} {a b : Int} {ep e0 : Nat} {tr₀ tb ta : Tok} {gg : Obj → List (Addr × Obj)} (hh : A.handled = none) (F : Fr h₀ env.locals s.heap m₀)
    (N : News h₀ env.locals s.heap ((I, revObj l ((vs.length : Int) - 1)) :: news)) (hoff : ∀ p ∈ news, p.1 < I) (hr : m₀ (Str.ofString "r") = some (.int 0 tr₀)) (_hb : m₀ (Str.ofString "b") = some (.int b tb)) (_ha : m₀ (Str.ofString "a") = some (.int a ta))
    (_hl : m₀ (Str.ofString "q_digits") = some (.ref lq)) (hm : (l, listOf (List.toArray vs) ep) ∈ news) (hi : IntsAre vs (digs (Builtin.Int.intBits b) (nd a (Builtin.Int.intBits b)) a)) (U : UpdF lq (listOf (List.toArray []) e0) news gg) (hne : @Ne Nat l lq)
    (h0 : Owe (DpOk a b))
    (turn : ∀ i d t lv ep' qs r tr u1 u2 it h tk, i < (digs (Builtin.Int.intBits b) (nd a (Builtin.Int.intBits b)) a).length → (digs (Builtin.Int.intBits b) (nd a (Builtin.Int.intBits b)) a)[(digs (Builtin.Int.intBits b) (nd a (Builtin.Int.intBits b)) a).length - 1 - i]? = some d →
      DvInv b (Builtin.Int.intBits b) (digs (Builtin.Int.intBits b) (nd a (Builtin.Int.intBits b)) a) i qs r → IntsAre lv qs → it.cls = .type "list_reverseiterator" → Fr h₀ env.locals h (dvMap m₀ u1 u2 r tr) → News h₀ env.locals h ((I, it) :: gg (listOf (List.toArray lv) ep')) →
      wpAny (model prog w) A (assign (.Name x px) env (.int d t)) (fun _ s₃ => wpAny (model prog w) A (execs body env) (DvEnd h₀ env.locals I it gg m₀ (DvInv b (Builtin.Int.intBits b) (digs (Builtin.Int.intBits b) (nd a (Builtin.Int.intBits b)) a) (i + 1)) s) E s₃) E { s with heap := h, toks := tk })
    (done : ∀ lv ep' qs r tr u1 u2 h tk, DvInv b (Builtin.Int.intBits b) (digs (Builtin.Int.intBits b) (nd a (Builtin.Int.intBits b)) a) (digs (Builtin.Int.intBits b) (nd a (Builtin.Int.intBits b)) a).length qs r → IntsAre lv qs → Fr h₀ env.locals h (dvMap m₀ u1 u2 r tr) → News h₀ env.locals h (gg (listOf (List.toArray lv) ep')) → Q .next { s with heap := h, toks := tk }) :
    wpAny (model prog w) A (pyIter (.ref I)) (fun it s₂ => TurnsAt prog w A h₀ env (.Name x px) body Q E it s₂) E s :=
  dv_turns (DvInv b (Builtin.Int.intBits b) (digs (Builtin.Int.intBits b) (nd a (Builtin.Int.intBits b)) a)) hh F N hoff hm hi U hne hr (dv_zero h0.out) turn done
end
def DpPre (H : Heap) : Prop := (∃ c, H.get? 73 = some (tab1 49 4 c) ∧ H.CodeRec (.ref c) q73) ∧ (H.get? 80 = some (tabObj #[]) ∨ ∃ c, H.get? 80 = some (tab1 64 4 c) ∧ H.CodeRec (.ref c) q80)
def DpPost (a b : Int) (H : Heap) (r : Value) (h' : Heap) : Prop := h'.get? 73 = H.get? 73 ∧ TabPost 80 64 4 q80 H h' ∧ QR (a / b) (a % b) H r h'
theorem fresh_hid {H g : Heap} {W : List Addr} {l : Addr} (eg : g = hideAll H W) (h : g.get? l = none) (hne : l ∉ W) : H.get? l = none := by
  cases e : H.get? l with
  | none => rfl
  | some o => rw [eg, hideAll_get _ e hne] at h; cases h
theorem tabPost_newW {H g h' : Heap} {L P c' : Addr} {W : List Addr} {nw : List (Addr × Obj)} {oc : Obj} {vs : Array Value} {x y : Int} {q : Str} {t : Tok} (hP : H.get? P = some (tabObj #[])) (eg : g = hideAll H W) (N : News g L h' nw)
    (hm : (P, tab1 x y c') ∈ nw) (hc : (c', oc) ∈ nw) (d1 : oc.data = .fields vs) (d2 : vs[1]? = some (.str q t)) (hne : c' ∉ W) : TabPost P x y q H h' := by
  refine ⟨fun _ => ⟨c', oc, vs, t, fresh_hid eg (N _ hc).2.2 hne, (N _ hc).1, d1, d2, (N _ hm).1⟩, fun c9 h => ?_⟩
  rw [hP] at h; simp at h
theorem QR.ofW {H g h' : Heap} {W : List Addr} {L : Addr} {q r q' r' : Int} {T : Addr} {t1 t2 : Tok} {nw : List (Addr × Obj)} (eg : g = hideAll H W) (N : News g L h' nw) (hm : (T, tup2 q' r' t1 t2) ∈ nw) (hne : T ∉ W) (e1 : q' = q) (e2 : r' = r) : QR q r H (.ref T) h' := by
  subst e1 e2
  exact ⟨T, t1, t2, rfl, fresh_hid eg (N _ hm).2.2 hne, (N _ hm).1⟩
theorem not_in2 {x a b : Nat} (h1 : x ≠ a) (h2 : x ≠ b) : x ∉ [a, b] := by simp [h1, h2]
end Mine
end

section
open PySem PySem.W PyProof.Rows PySem.Calls
set_option Elab.async false
set_option maxRecDepth 100000
set_option maxHeartbeats 8000000
namespace Mine
section
variable {w : World} {p : Program} {loose : List Str} {mean : ExcName → Option Value} {mg mb : Str → Option Value}
theorem fillDp : ∀ h : Heap, (Mine.hd.heap_39 w.params).In h → PySem.Challenge.rw_xg0080_01 = PySem.Challenge.rw_xg0080_01 := by k_fill; intro _ _; rfl
theorem dp_con (a b : Int) (ta tb : Tok) (hok : DpOk a b) : Con w p loose mean mg mb 92 [.int a ta, .int b tb] 30 400 [73, 80] DpPre (DpPost a b) := by
  refine' con_ofK ?k6 ?k7 ?kd ?k9 ?kB ?c5 ?c2 ?c3 ?c4 ?_
  case k6 => k_is
  case k7 => k_is
  case kd => omega
  case k9 => exact rfl
  case kB => exact locs rfl
  case c5 => decide
  case c2 => exact rfl
  case c3 => exact rfl
  case c4 => exact rfl
  intro dp un gd outer A₀ base H g L' h₁ s Q E eg eL B' F' hk₁ X' T' hdp hun hpre hret
  obtain ⟨⟨c7, hP7, hc7⟩, h8⟩ := hpre
  have hL7 := ltN (show 73 < L' by rw [eL]; exact Heap.lt_size hP7)
  have D2 := d2_all2 (w := w) (p := p) (loose := loose) (mean := mean) (mg := mg) (mb := mb)
  rcases h8 with hP8 | ⟨c8, hP8, hc8⟩
  · have hg7 := codeRec_hid hc7 eg (by intro P hP; rcases List.mem_cons.mp hP with rfl | hP; exact ⟨_, hP7, tab1_no⟩; rw [List.mem_singleton.mp hP]; exact ⟨_, hP8, tab0_no⟩)
    have hL8 := ltN (show 80 < L' by rw [eL]; exact Heap.lt_size hP8)
    have N' : News g L' h₁ [(73, tab1 49 4 c7), (80, tabObj #[])] := news_hid eg eL hk₁ (by intro q hq; rcases List.mem_cons.mp hq with rfl | hq; exact ⟨by simp, hP7⟩; rw [List.mem_singleton.mp hq]; exact ⟨by simp, hP8⟩)
    (try k_fold)
    repeat' (
      first
      | (k_unfold; (try dsimp only)) | (k_end; wrow_close)
      | ((with_reducible show wpAny _ _ (pyIter (Value.ref _)) _ _ _); (k_here; (with_reducible rename Fr _ _ _ _ => wF); (with_reducible rename News _ _ _ _ => wN); k_dflt (refine' dv_loop ?hh ?wF ?wN ?ho ?k1 ?k2 ?k3 ?k4 ?k5 ?k6 ?k7 ?k8 ?_ ?_ ?_; (case hh => exact rfl); (case wF => exact wF); (case wN => exact wN); (case k1 => exact rfl); (case k2 => exact rfl); (case k3 => exact rfl); (case k4 => exact rfl); (case k5 => k_mem); (case k6 => assumption); (case k7 => k_updF); (case k8 => omega); (case ho => (refine of_allLt ?_; simp only [AllLt, and_true]; omega))); rotate_left; (intro i' d' t' lv' ep' qs' r' tr' u1' u2' it' h' tk' e1' e2' e3' e4' e5' F' N'; (try dsimp only at N')); rotate_left; (intro lv' ep' qs' r' tr' u1' u2' h' tk' e1' e2' F' N'; (try dsimp only at N'); (try dsimp only); (try k_fold))))
      | ((with_reducible show wpAny _ _ (call (Value.builtin "list.reverse") _ _) _ _ _); (k_here; k_dflt (refine' g_reverse ?k1 ?k2 ?k3 ?k4 ?_ ?_; (case k1 => k_asm); (case k2 => k_asm); (case k3 => k_updF); (case k4 => assumption)); rotate_left; intro h' vs' hI' F' N'; (try dsimp only at N')))
      | ((with_reducible show wpAny _ _ (call (Value.builtin "list.append") _ _) _ _ _); (k_here; k_dflt (refine' g_append ?k1 ?k2 ?k3 ?k4 ?_ ?_; (case k1 => k_asm); (case k2 => k_asm); (case k3 => k_updF); (case k4 => assumption)); rotate_left; intro h' vs' ep' hI' F' N'; (try dsimp only at N')))
      | ((with_reducible show wpAny _ _ (exec (Stmt.For _ _ _ _ _) _) _ _ _); (k_here; k_dflt (refine For_turns (by k_asm) ?_)))
      | ((with_reducible show wpAny _ _ (call (Value.ref _) _ _) _ _ _); (k_here; k_dflt (refine' use_d1_miss ?k1 ?k2 ?k3 ?k4 ?k5 ?k6 ?k7 ?k9 ?k10 ?_ ?_; (case k1 => k_asm); (case k2 => k_asm); (case k3 => k_asm); (case k4 => k_asm); (case k5 => exact rfl); (case k6 => k_asm); (case k7 => k_updF); (case k9 => k_mem); (case k10 => assumption)); rotate_left; intro t' c' oc' vs' tc' h' tk' d1' d2' F' N' l1; (try dsimp only at N'); (try (have l0 := l1; replace l1 := allNe_of l1; simp only [AllNe, and_true] at l1)); (try dsimp only); (try k_fold)))
      | ((with_reducible show wpAny _ _ (call (Value.ref _) _ _) _ _ _); (k_here; k_dflt (refine' use_d1_hit ?k1 ?k2 ?k3 ?k4 ?k5 ?k6 ?k7 ?k9 ?k10 ?k8 ?_ ?_; (case k1 => k_asm); (case k2 => k_asm); (case k3 => k_asm); (case k4 => k_asm); (case k5 => exact rfl); (case k6 => k_asm); (case k7 => k_updF); (case k9 => k_mem); (case k10 => assumption); (case k8 => first | exact PySem.Heap.CodeRec.keeps (by with_reducible assumption) (Fr.keep (by assumption)) | exact codeRec_in (by assumption) (by k_mem) (by assumption) (by assumption))); rotate_left; intro t' h' tk' F' N'; (try dsimp only at N'); (try dsimp only); (try k_fold)))
      | ((with_reducible show wpAny _ _ (call (Value.ref _) _ _) _ _ _); (k_here; k_dflt (refine' use_i2_hit ?k1 ?k2 ?k3 ?k4 ?k5 ?k6 ?k7 ?k8 ?_ ?_; (case k1 => k_asm); (case k2 => k_asm); (case k3 => k_asm); (case k4 => k_asm); (case k5 => exact rfl); (case k6 => k_asm); (case k7 => k_updF); (case k8 => first | exact PySem.Heap.CodeRec.keeps (by with_reducible assumption) (Fr.keep (by assumption)) | exact codeRec_in (by assumption) (by k_mem) (by assumption) (by assumption))); rotate_left; intro l' its' ep' h' tk' hI' F' N' l1; (try dsimp only at N'); (try (have l0 := l1; replace l1 := allNe_of l1; simp only [AllNe, and_true] at l1)); (try dsimp only); (try k_fold)))
      | ((with_reducible show wpAny _ _ (call (Value.ref _) _ _) _ _ _); (k_here; (with_reducible rename D2All _ _ _ _ _ _ _ => IH); k_dflt (refine' use_d2 IH ?k1 ?k2 ?k3 ?k4 ?k5 ?k6 ?_ ?_; (case k1 => k_asm); (case k2 => k_asm); (case k3 => k_asm); (case k4 => k_asm); (case k5 => k_asm); (case k6 => exact rfl)); rotate_left; intro T' q' r' t1' t2' h' tk' hq' hr' F' N' l1; (try (have l0 := l1; replace l1 := allNe_of l1; simp only [AllNe, and_true] at l1)); (try dsimp only); (try k_fold)))
      | walk1 | (dsimp only; walk1) | (leave1; walk_say "STEP leave1"; try dsimp only) | fail "no step")
    all_goals (first
      | exact ⟨hok⟩
      | exact ⟨⟨hok.2.2, by omega, by omega⟩⟩
      | exact ⟨⟨(dv_done hok (by assumption)).1, by omega, by omega⟩⟩
      | exact ⟨(dv_done hok (by assumption)).2.2.2⟩
      | exact ⟨⟨(dv_step hok (by assumption) (by assumption) (by assumption)).2.2.1, by omega, by omega⟩⟩
      | exact ⟨(dv_step hok (by assumption) (by assumption) (by assumption)).1⟩
      | exact ⟨(dv_step hok (by assumption) (by assumption) (by assumption)).2.1⟩
      | skip)
    all_goals (try (refine' ⟨rfl, _, _, _, _, _, _, _, _, rfl, ?a1, ?a2, ?a3, ?a4, ?a5, ?a6⟩
                    case a1 => assumption
                    case a3 => assumption
                    case a5 => exact rfl
                    case a2 => exact (fun q hq => (by assumption : News _ _ _ _) q ((by k_allIn : ∀ p ∈ _, p ∈ _) q hq))
                    case a4 => exact (dv_step hok (by assumption) (by assumption) (by assumption)).2.2.2 _ _ (by assumption) (by assumption)
                    case a6 => intro y h1 h2 h3; simp +zetaDelta [dvMap, h1, h2, h3]))
    all_goals (
      refine' hret _ _ _ (Fr.keep (by assumption)) ⟨?a1, ?a2, ?a3⟩
      case a1 => exact (News.get (by assumption) (by k_mem)).trans hP7.symm
      case a3 => exact QR.ofW eg (by assumption) (List.Mem.head _) (not_in2 (by omega) (by omega)) (dv_done hok (by assumption)).2.1 (dv_done hok (by assumption)).2.2.1
      case a2 => first | exact tabPost_newW hP8 eg (by assumption) (by k_mem) (by k_mem) (by assumption) (by assumption) (not_in2 (by omega) (by omega)) | exact tabPost_old hP8 (by assumption) (by k_mem))
  · have hg7 := codeRec_hid hc7 eg (by intro P hP; rcases List.mem_cons.mp hP with rfl | hP; exact ⟨_, hP7, tab1_no⟩; rw [List.mem_singleton.mp hP]; exact ⟨_, hP8, tab1_no⟩)
    have hL8 := ltN (show 80 < L' by rw [eL]; exact Heap.lt_size hP8)
    have N' : News g L' h₁ [(73, tab1 49 4 c7), (80, tab1 64 4 c8)] := news_hid eg eL hk₁ (by intro q hq; rcases List.mem_cons.mp hq with rfl | hq; exact ⟨by simp, hP7⟩; rw [List.mem_singleton.mp hq]; exact ⟨by simp, hP8⟩)
    have hg8 := codeRec_hid hc8 eg (by intro P hP; rcases List.mem_cons.mp hP with rfl | hP; exact ⟨_, hP7, tab1_no⟩; rw [List.mem_singleton.mp hP]; exact ⟨_, hP8, tab1_no⟩)
    (try k_fold)
    repeat' (
      first
      | (k_unfold; (try dsimp only)) | (k_end; wrow_close)
      | ((with_reducible show wpAny _ _ (pyIter (Value.ref _)) _ _ _); (k_here; (with_reducible rename Fr _ _ _ _ => wF); (with_reducible rename News _ _ _ _ => wN); k_dflt (refine' dv_loop ?hh ?wF ?wN ?ho ?k1 ?k2 ?k3 ?k4 ?k5 ?k6 ?k7 ?k8 ?_ ?_ ?_; (case hh => exact rfl); (case wF => exact wF); (case wN => exact wN); (case k1 => exact rfl); (case k2 => exact rfl); (case k3 => exact rfl); (case k4 => exact rfl); (case k5 => k_mem); (case k6 => assumption); (case k7 => k_updF); (case k8 => omega); (case ho => (refine of_allLt ?_; simp only [AllLt, and_true]; omega))); rotate_left; (intro i' d' t' lv' ep' qs' r' tr' u1' u2' it' h' tk' e1' e2' e3' e4' e5' F' N'; (try dsimp only at N')); rotate_left; (intro lv' ep' qs' r' tr' u1' u2' h' tk' e1' e2' F' N'; (try dsimp only at N'); (try dsimp only); (try k_fold))))
      | ((with_reducible show wpAny _ _ (call (Value.builtin "list.reverse") _ _) _ _ _); (k_here; k_dflt (refine' g_reverse ?k1 ?k2 ?k3 ?k4 ?_ ?_; (case k1 => k_asm); (case k2 => k_asm); (case k3 => k_updF); (case k4 => assumption)); rotate_left; intro h' vs' hI' F' N'; (try dsimp only at N')))
      | ((with_reducible show wpAny _ _ (call (Value.builtin "list.append") _ _) _ _ _); (k_here; k_dflt (refine' g_append ?k1 ?k2 ?k3 ?k4 ?_ ?_; (case k1 => k_asm); (case k2 => k_asm); (case k3 => k_updF); (case k4 => assumption)); rotate_left; intro h' vs' ep' hI' F' N'; (try dsimp only at N')))
      | ((with_reducible show wpAny _ _ (exec (Stmt.For _ _ _ _ _) _) _ _ _); (k_here; k_dflt (refine For_turns (by k_asm) ?_)))
      | ((with_reducible show wpAny _ _ (call (Value.ref _) _ _) _ _ _); (k_here; k_dflt (refine' use_d1_miss ?k1 ?k2 ?k3 ?k4 ?k5 ?k6 ?k7 ?k9 ?k10 ?_ ?_; (case k1 => k_asm); (case k2 => k_asm); (case k3 => k_asm); (case k4 => k_asm); (case k5 => exact rfl); (case k6 => k_asm); (case k7 => k_updF); (case k9 => k_mem); (case k10 => assumption)); rotate_left; intro t' c' oc' vs' tc' h' tk' d1' d2' F' N' l1; (try dsimp only at N'); (try (have l0 := l1; replace l1 := allNe_of l1; simp only [AllNe, and_true] at l1)); (try dsimp only); (try k_fold)))
      | ((with_reducible show wpAny _ _ (call (Value.ref _) _ _) _ _ _); (k_here; k_dflt (refine' use_d1_hit ?k1 ?k2 ?k3 ?k4 ?k5 ?k6 ?k7 ?k9 ?k10 ?k8 ?_ ?_; (case k1 => k_asm); (case k2 => k_asm); (case k3 => k_asm); (case k4 => k_asm); (case k5 => exact rfl); (case k6 => k_asm); (case k7 => k_updF); (case k9 => k_mem); (case k10 => assumption); (case k8 => first | exact PySem.Heap.CodeRec.keeps (by with_reducible assumption) (Fr.keep (by assumption)) | exact codeRec_in (by assumption) (by k_mem) (by assumption) (by assumption))); rotate_left; intro t' h' tk' F' N'; (try dsimp only at N'); (try dsimp only); (try k_fold)))
      | ((with_reducible show wpAny _ _ (call (Value.ref _) _ _) _ _ _); (k_here; k_dflt (refine' use_i2_hit ?k1 ?k2 ?k3 ?k4 ?k5 ?k6 ?k7 ?k8 ?_ ?_; (case k1 => k_asm); (case k2 => k_asm); (case k3 => k_asm); (case k4 => k_asm); (case k5 => exact rfl); (case k6 => k_asm); (case k7 => k_updF); (case k8 => first | exact PySem.Heap.CodeRec.keeps (by with_reducible assumption) (Fr.keep (by assumption)) | exact codeRec_in (by assumption) (by k_mem) (by assumption) (by assumption))); rotate_left; intro l' its' ep' h' tk' hI' F' N' l1; (try dsimp only at N'); (try (have l0 := l1; replace l1 := allNe_of l1; simp only [AllNe, and_true] at l1)); (try dsimp only); (try k_fold)))
      | ((with_reducible show wpAny _ _ (call (Value.ref _) _ _) _ _ _); (k_here; (with_reducible rename D2All _ _ _ _ _ _ _ => IH); k_dflt (refine' use_d2 IH ?k1 ?k2 ?k3 ?k4 ?k5 ?k6 ?_ ?_; (case k1 => k_asm); (case k2 => k_asm); (case k3 => k_asm); (case k4 => k_asm); (case k5 => k_asm); (case k6 => exact rfl)); rotate_left; intro T' q' r' t1' t2' h' tk' hq' hr' F' N' l1; (try (have l0 := l1; replace l1 := allNe_of l1; simp only [AllNe, and_true] at l1)); (try dsimp only); (try k_fold)))
      | walk1 | (dsimp only; walk1) | (leave1; walk_say "STEP leave1"; try dsimp only) | fail "no step")
    all_goals (first
      | exact ⟨hok⟩
      | exact ⟨⟨hok.2.2, by omega, by omega⟩⟩
      | exact ⟨⟨(dv_done hok (by assumption)).1, by omega, by omega⟩⟩
      | exact ⟨(dv_done hok (by assumption)).2.2.2⟩
      | exact ⟨⟨(dv_step hok (by assumption) (by assumption) (by assumption)).2.2.1, by omega, by omega⟩⟩
      | exact ⟨(dv_step hok (by assumption) (by assumption) (by assumption)).1⟩
      | exact ⟨(dv_step hok (by assumption) (by assumption) (by assumption)).2.1⟩
      | skip)
    all_goals (try (refine' ⟨rfl, _, _, _, _, _, _, _, _, rfl, ?a1, ?a2, ?a3, ?a4, ?a5, ?a6⟩
                    case a1 => assumption
                    case a3 => assumption
                    case a5 => exact rfl
                    case a2 => exact (fun q hq => (by assumption : News _ _ _ _) q ((by k_allIn : ∀ p ∈ _, p ∈ _) q hq))
                    case a4 => exact (dv_step hok (by assumption) (by assumption) (by assumption)).2.2.2 _ _ (by assumption) (by assumption)
                    case a6 => intro y h1 h2 h3; simp +zetaDelta [dvMap, h1, h2, h3]))
    all_goals (
      refine' hret _ _ _ (Fr.keep (by assumption)) ⟨?a1, ?a2, ?a3⟩
      case a1 => exact (News.get (by assumption) (by k_mem)).trans hP7.symm
      case a3 => exact QR.ofW eg (by assumption) (List.Mem.head _) (not_in2 (by omega) (by omega)) (dv_done hok (by assumption)).2.1 (dv_done hok (by assumption)).2.2.1
      case a2 => first | exact tabPost_newW hP8 eg (by assumption) (by k_mem) (by k_mem) (by assumption) (by assumption) (not_in2 (by omega) (by omega)) | exact tabPost_old hP8 (by assumption) (by k_mem))
end
end Mine
end

section
open PySem PySem.W PyProof.Rows PySem.Calls
set_option Elab.async false
set_option maxRecDepth 100000
set_option linter.unusedVariables false
namespace Mine
section
variable {prog : Program} {w : World} {A : Around} {E : Value → Shared → Prop} {s : Shared} {env : Env} {h₀ : Heap} {body : List Stmt} {Q : Flow → Shared → Prop} {m₀ : Str → Option Value} {news : List (Addr × Obj)}
theorem enum_turns {elts : List Expr} {k : Nat} {pos : Pos} {l : Addr} {lo : Obj} {vs : List Value} {n : Nat} (hh : A.handled = none) (F : Fr h₀ env.locals s.heap m₀) (N : News h₀ env.locals s.heap news)
    (hm : (l, lo) ∈ news) (hc : lo.cls = .type "list") (hd : lo.data = .seq vs.toArray n)
    (J : Nat → (Str → Option Value) → List (Addr × Obj) → Prop) (h0 : J 0 m₀ news)
    (hJ : ∀ i m n₁, J i m n₁ → (∀ p ∈ n₁, ∃ o, (p.1, o) ∈ news) ∧ (l, lo) ∈ n₁)
    (turn : ∀ I i v t T m₁ n₁ h tk o1 o2, (∀ p ∈ news, p.1 < I) → vs[i]? = some v → J i m₁ n₁ → IsTup h T #[.int (i : Int) t, v] → o1.cls = .type "enumerate" → o2.cls = .type "list_iterator" → Fr h₀ env.locals h m₁ → News h₀ env.locals h ((I + 1, o1) :: (I, o2) :: n₁) →
      wpAny (model prog w) A (assign (.Tuple elts k pos) env (.ref T)) (fun _ s₃ => wpAny (model prog w) A (execs body env) (TEnd h₀ env.locals [(I + 1, o1), (I, o2)] (J (i + 1)) { s with heap := h, toks := tk } Q) E s₃) E { s with heap := h, toks := tk })
    (done : ∀ m₁ n₁ h tk, J vs.length m₁ n₁ → Fr h₀ env.locals h m₁ → News h₀ env.locals h n₁ → Q .next { s with heap := h, toks := tk }) :
    wpAny (model prog w) A (call (.type "enumerate") [.ref l]) (fun xv s₁ => wpAny (model prog w) A (pyIter xv) (fun it s₂ => TurnsAt prog w A h₀ env (.Tuple elts k pos) body Q E it s₂) E s₁) E s := by
  have hax := N _ hm
  have hl : s.heap.IsList l vs.toArray := ⟨lo, hax.1, hc, n, hd⟩
  have hlt : l < s.heap.objs.size := Heap.lt_size hax.1
  have hLs : env.locals < s.heap.objs.size := F.ns.lt
  have hoff : ∀ p ∈ news, p.1 < s.heap.objs.size := fun p hp => Heap.lt_size (N p hp).1
  have hJoff : ∀ i m n₁, J i m n₁ → ∀ p ∈ n₁, p.1 < s.heap.objs.size := fun i m n₁ hj p hp => by
    obtain ⟨o, ho⟩ := (hJ i m n₁ hj).1 p hp
    exact hoff (p.1, o) ho
  refine call_enumerate_list hl fun h' hE hI hsz hk => ?_
  refine wpAny_pyIter_enum hE ?_
  have hlen : vs.toArray.size = vs.length := by simp
  refine turns_J (tk0 := s.toks) (ws := [(s.heap.objs.size + 1, "enumerate"), (s.heap.objs.size, "list_iterator")]) (keep := [(l, lo)])
    (KTurns.ofWalksU (WalksT.enumerate hh (s.heap.objs.size + 1) s.heap.objs.size l (Nat.succ_ne_self _) (ktu_ne 1 hlt) (Nat.ne_of_lt hlt) vs.toArray).toU) ?_ ?_ ?_ ?_ ?_ ?_ (F.keeps hk) (N.grown hk) J h0 (fun i m₁ n₁ hj => ⟨fun p hp hI' => ?_, fun p hp => by rw [List.mem_singleton.mp hp]; exact (hJ _ _ _ hj).2⟩) ?_ ?_
  · rintro i h ⟨⟨old, he⟩, ⟨oi, hoi, hic, _⟩, _⟩
    have he' : ∃ oe : Obj, h.get? (s.heap.objs.size + 1) = some oe ∧ oe.cls = .type "enumerate" := ⟨_, he, rfl⟩
    obtain ⟨oe, h1, h2⟩ := he'
    refine ⟨[(s.heap.objs.size + 1, oe), (s.heap.objs.size, oi)], ⟨⟨rfl, h2⟩, ⟨rfl, hic⟩, trivial⟩, fun p hp => ?_⟩
    rcases List.mem_cons.mp hp with rfl | hp
    · exact h1
    · rw [List.mem_singleton.mp hp]; exact hoi
  · intro b hb
    have hb' : b = s.heap.objs.size + 1 ∨ b = s.heap.objs.size := by simpa using hb
    rcases hb' with rfl | rfl
    · exact ⟨by simp, ktu_new F (Nat.le_add_right _ _)⟩
    · exact ⟨by simp, ktu_new F (Nat.le_refl _)⟩
  · intro b hb
    simpa using hb
  · intro b hb
    have hb' : b = s.heap.objs.size + 1 ∨ b = s.heap.objs.size ∨ b = l := by simpa using hb
    rcases hb' with rfl | rfl | rfl
    · exact .inl (by simp)
    · exact .inl (by simp)
    · exact .inr (.inl ⟨lo, by simp⟩)
  · intro hI'
    have hb' : env.locals = s.heap.objs.size + 1 ∨ env.locals = s.heap.objs.size ∨ env.locals = l := by simpa using hI'
    rcases hb' with e | e | e
    · exact ktu_ne 1 hLs e
    · exact Nat.ne_of_lt hLs e
    · exact hax.2.1 e.symm
  · exact ⟨⟨.none, hE⟩, hI, hl.at fun o e => hk l o e⟩
  · have hb' : p.1 = s.heap.objs.size + 1 ∨ p.1 = s.heap.objs.size := by simpa using hI'
    have hlp := hJoff _ _ _ hj p hp
    rcases hb' with e | e
    · exact ktu_ne 1 hlp e
    · exact Nat.ne_of_lt hlp e
  · rintro i v m₁ n₁ h tk hi ⟨T, vals, rfl, ⟨t, x, hx, rfl⟩, hT⟩ hj F₁
    refine fun o1 c1 o2 c2 => fun N₁ => ?_
    exact turn s.heap.objs.size i x t T m₁ n₁ h tk o1 o2 hoff (by simpa using hx) hj hT c1 c2 F₁ N₁
  · intro m₁ n₁ h tk hj F₁ N₁
    rw [hlen] at hj
    exact done m₁ n₁ h tk hj F₁ N₁

/-- the map of a loop's two names -/
abbrev enMap (x1 x2 : Str) (m₀ : Str → Option Value) (u1 u2 : Option Value) : Str → Option Value := fun y => if y = x1 then u1 else if y = x2 then u2 else m₀ y
theorem enMap_eq {x1 x2 : Str} {m₀ m : Str → Option Value} (h : ∀ y, y ≠ x1 → y ≠ x2 → m y = m₀ y) : m = enMap x1 x2 m₀ (m x1) (m x2) := by
  funext y
  by_cases c1 : y = x1
  · subst c1; simp [enMap]
  · by_cases c2 : y = x2
    · subst c2; simp [enMap, c1]
    · simp [enMap, c1, c2, h y c1 c2]
def EnEnd (h₀ : Heap) (L I : Addr) (o1 o2 : Obj) (x1 x2 : Str) (gg : Obj → List (Addr × Obj)) (m₀ : Str → Option Value) (Inv : List Int → Prop) (s : Shared) (f : Flow) (s₂ : Shared) : Prop :=
  f = .next ∧ ∃ h' tk' m' lv ep qs, s₂ = { s with heap := h', toks := tk' } ∧ Fr h₀ L h' m' ∧ News h₀ L h' ((I + 1, o1) :: (I, o2) :: gg (listOf (List.toArray lv) ep)) ∧ IntsAre lv qs ∧ Inv qs ∧ ∀ y, y ≠ x1 → y ≠ x2 → m' y = m₀ y
theorem en_turns {elts : List Expr} {k : Nat} {pos : Pos} {x1 x2 : Str} {l lq : Addr} {vs lv₀ : List Value} {ds qs₀ : List Int} {ep e0 : Nat} {gg : Obj → List (Addr × Obj)} (Inv : Nat → List Int → Prop) (hh : A.handled = none) (F : Fr h₀ env.locals s.heap m₀)
    (N : News h₀ env.locals s.heap news) (hm : (l, listOf (List.toArray vs) ep) ∈ news) (hi : IntsAre vs ds) (U : UpdF lq (listOf (List.toArray lv₀) e0) news gg) (hne : @Ne Nat l lq) (hi₀ : IntsAre lv₀ qs₀) (h0 : Inv 0 qs₀)
    (turn : ∀ I i d t td T lv ep' qs u1 u2 o1 o2 h tk, (∀ p ∈ news, p.1 < I) → i < ds.length → ds[i]? = some d → Inv i qs → IntsAre lv qs → IsTup h T #[.int (i : Int) t, .int d td] → o1.cls = .type "enumerate" → o2.cls = .type "list_iterator" →
      Fr h₀ env.locals h (enMap x1 x2 m₀ u1 u2) → News h₀ env.locals h ((I + 1, o1) :: (I, o2) :: gg (listOf (List.toArray lv) ep')) →
      wpAny (model prog w) A (assign (.Tuple elts k pos) env (.ref T)) (fun _ s₃ => wpAny (model prog w) A (execs body env) (EnEnd h₀ env.locals I o1 o2 x1 x2 gg m₀ (Inv (i + 1)) s) E s₃) E { s with heap := h, toks := tk })
    (done : ∀ lv ep' qs u1 u2 h tk, Inv ds.length qs → IntsAre lv qs → Fr h₀ env.locals h (enMap x1 x2 m₀ u1 u2) → News h₀ env.locals h (gg (listOf (List.toArray lv) ep')) → Q .next { s with heap := h, toks := tk }) :
    wpAny (model prog w) A (call (.type "enumerate") [.ref l]) (fun xv s₁ => wpAny (model prog w) A (pyIter xv) (fun it s₂ => TurnsAt prog w A h₀ env (.Tuple elts k pos) body Q E it s₂) E s₁) E s := by
  obtain ⟨own, rest, e1, hg, h1, h2⟩ := U.split
  have hlen : vs.length = ds.length := hi.length
  refine enum_turns hh F N hm rfl rfl (fun i m n => ∃ lv ep' qs, n = gg (listOf (List.toArray lv) ep') ∧ IntsAre lv qs ∧ Inv i qs ∧ ∀ y, y ≠ x1 → y ≠ x2 → m y = m₀ y)
    ⟨lv₀, e0, qs₀, ?_, hi₀, h0, fun _ _ _ => rfl⟩ ?_ ?_ ?_
  · rw [hg]; exact e1
  · rintro i m n ⟨lv, ep', qs, rfl, _⟩
    rw [hg, e1]
    refine ⟨fun p hp => ?_, ?_⟩
    · rcases List.mem_append.mp hp with hp | hp
      · exact ⟨p.2, List.mem_append_left _ hp⟩
      · rcases List.mem_cons.mp hp with rfl | hp
        · exact ⟨_, List.mem_append_right _ (.head _)⟩
        · exact ⟨p.2, List.mem_append_right _ (.tail _ hp)⟩
    · rw [e1] at hm
      rcases List.mem_append.mp hm with hm | hm
      · exact List.mem_append_left _ hm
      · rcases List.mem_cons.mp hm with e | hm
        · exact absurd (congrArg Prod.fst e) hne
        · exact List.mem_append_right _ (.tail _ hm)
  · rintro I i v t T m₁ n₁ h tk o1 o2 hoff hv ⟨lv, ep', qs, rfl, a1, a2, a4⟩ hT c1 c2 F₁ N₁
    obtain ⟨d, td, rfl, hd⟩ := hi.at _ _ hv
    rw [enMap_eq a4] at F₁
    have hlt : i < ds.length := by
      have := (List.getElem?_eq_some_iff.mp hd).1; exact this
    refine wpAny_mono (turn I i d t td T lv ep' qs _ _ o1 o2 h tk hoff hlt hd a2 a1 hT c1 c2 F₁ N₁) (fun _ s₂ h₂ => wpAny_mono h₂ (fun f s₃ q => ?_) fun _ _ e => e) fun _ _ e => e
    obtain ⟨rfl, h', tk', m', lv', ep2, qs', rfl, b1, b2, b3, b4, b6⟩ := q
    exact ⟨h', tk', m', _, rfl, b1, b2, lv', ep2, qs', rfl, b3, b4, b6⟩
  · rintro m₁ n₁ h tk ⟨lv, ep', qs, rfl, a1, a2, a4⟩ F₁ N₁
    rw [enMap_eq a4] at F₁
    rw [hlen] at a2
    exact done lv ep' qs _ _ h tk a2 a1 F₁ N₁
end
end Mine
end

section
open PySem PySem.W PyProof.Rows PySem.Calls
set_option Elab.async false
set_option maxRecDepth 100000
set_option linter.unusedVariables false
namespace Mine
theorem ints_set {x : Int} {u : Tok} : ∀ {lv : List Value} {ts : List Int}, IntsAre lv ts → ∀ i, IntsAre (lv.set i (.int x u)) (ts.set i x)
  | _, _, .nil, _ => .nil
  | _, _, .cons y t r, 0 => .cons x u r
  | _, _, .cons y t r, i + 1 => .cons y t (ints_set r i)
theorem ints_get {lv : List Value} {ts : List Int} (h : IntsAre lv ts) {i : Nat} (hi : i < ts.length) : ∃ y t, lv[i]? = some (.int y t) ∧ ts[i]? = some y := by
  have hl : i < lv.length := by rw [h.length]; exact hi
  obtain ⟨y, t, e, hy⟩ := h.at _ _ (List.getElem?_eq_getElem hl)
  exact ⟨y, t, by rw [List.getElem?_eq_getElem hl, e], hy⟩
section
variable {prog : Program} {w : World} {A : Around} {E : Value → Shared → Prop} {s : Shared} {h₀ : Heap} {L : Addr} {m : Str → Option Value} {news : List (Addr × Obj)}
theorem g_getI {l : Addr} {lv : List Value} {ts : List Int} {k : Nat} {x : Int} {t : Tok} {Q : Value → Shared → Prop} (N : News h₀ L s.heap news) (hm : (l, listOf (List.toArray lv) k) ∈ news) (hI : IntsAre lv ts) (h0 : Owe (0 ≤ x ∧ x < ts.length ∧ ts.length ≤ 1000000))
    (h : ∀ y ty, ts[x.toNat]? = some y → Q (.int y ty) s) : wpAny (model prog w) A (getItem (.ref l) (.int x t)) Q E s := by
  obtain ⟨a1, a2, a3⟩ := h0.out
  obtain ⟨y, ty, e1, e2⟩ := ints_get hI (i := x.toNat) (by lia)
  refine wpAny_getItem_list (items := lv.toArray) ⟨_, (N _ hm).1, rfl, _, rfl⟩ a1 (by lia) ?_ (h y ty e2)
  simpa using e1
theorem g_setI {D : Addr} {lv : List Value} {ts : List Int} {n : Nat} {k x : Int} {t u : Tok} {gg : Obj → List (Addr × Obj)} {Q : Unit → Shared → Prop} (F : Fr h₀ L s.heap m) (N : News h₀ L s.heap news) (U : UpdF D (listOf (List.toArray lv) n) news gg) (hI : IntsAre lv ts)
    (h0 : Owe (0 ≤ k ∧ k < ts.length ∧ ts.length ≤ 1000000))
    (h : ∀ h' lv' ep, IntsAre lv' (ts.set k.toNat x) → Fr h₀ L h' m → News h₀ L h' (gg (listOf (List.toArray lv') ep)) → Q () { s with heap := h' }) : wpAny (model prog w) A (setItem (.ref D) (.int k t) (.int x u)) Q E s := by
  obtain ⟨a1, a2, a3⟩ := h0.out
  obtain ⟨pre, post, e1, e2, a, b⟩ := (upd_of (o' := listOf (List.toArray (lv.set k.toNat (.int x u))) n) U).split
  have hlen := hI.length
  subst e1
  have z := N (D, listOf lv.toArray n) (List.mem_append.mpr (.inr (.head _)))
  refine ki_setAt z.1 a1 (by lia) (by simp; lia) (h _ (lv.set k.toNat (.int x u)) n (ints_set hI _) (F.change (Heap.SameBut.update ..) z.2.1 z.2.2) ?_)
  rw [e2]
  refine ki_turn _ N a b ?_ ?_
  · show lv.toArray.setIfInBounds k.toNat (.int x u) = (lv.set k.toNat (.int x u)).toArray
    simp
  · rw [if_pos (by simp)]
end
end Mine
end

section
open PySem PySem.W PyProof.Rows PySem.Calls
open Sem (wp)
open AutoSeq1 (wpAny_loadPart')
set_option Elab.async false
set_option maxRecDepth 100000
set_option linter.unusedVariables false
namespace Mine
section
variable {prog : Program} {w : World} {A : Around} {E : Value → Shared → Prop} {s : Shared}
theorem nextOf_tup_item {it t : Addr} {i : Nat} {items : Array Value} {x : Value} {Q : Value → Shared → Prop} (hit : s.heap.IsTupleIter it t i) (ht : s.heap.IsTuple t items) (hx : items[i]? = some x)
    (hQ : ∀ h', h'.IsTupleIter it t (i + 1) → Heap.SameBut it s.heap h' → Q x { s with heap := h' }) :
    wpAny (model prog w) A (Builtin.SmallTypes.nextOf (.ref it)) Q E s := by
  obtain ⟨o, ho, hc, hd⟩ := id hit
  obtain ⟨ol, hol, _, nl, hdl⟩ := ht
  unfold Builtin.SmallTypes.nextOf
  refine wpAny_bind (wpAny_callSpecial?_slot (name := Str.ofString "__next__") hit.typeIs F.slot_tuple_iterator_next
    (wpAny_call_entry F.slot_tuple_iterator_next hit.typeIs F.entry_tuple_iterator_next ?_ (F.args_tuple_iterator_next_1 _)))
  show wpAny _ _ (field (.ref it) 0 >>= _) _ _ s
  refine wpAny_bind (wpAny_field ho hd (x := .ref t) rfl ?_)
  show wpAny _ _ (if (Value.ref t == Value.none) = true then _ else _) _ _ s
  rw [if_neg (show ¬ ((Value.ref t == Value.none) = true) from Bool.false_ne_true)]
  show wpAny _ _ (field (.ref it) 1 >>= _) _ _ s
  refine wpAny_bind (wpAny_field ho hd (x := .int i 0) rfl ?_)
  show wpAny _ _ (seqItems? (.ref t) >>= _) _ _ s
  refine wpAny_bind (wpAny_seqItems hol hdl ?_)
  simp only [Int.toNat_natCast, hx]
  refine wpAny_bind (wpAny_setField ho hd (by simp) (wpAny_pure ⟨x, rfl, wpAny_pure (hQ _ ?_ (Heap.SameBut.update ..))⟩))
  exact ⟨_, Heap.get?_update_self _ ho (Obj.isFreed_of_fields (Obj.data_mapFields hd _)), (Obj.cls_mapFields ..).trans hc, by
    rw [Obj.data_mapFields hd]; simp [rawInt]⟩
theorem nextOf_tup_end {it t : Addr} {i : Nat} {items : Array Value} {Q : Value → Shared → Prop} (hh : A.handled = none) (hit : s.heap.IsTupleIter it t i) (ht : s.heap.IsTuple t items) (hx : items[i]? = none)
    (hE : ∀ h' e, Heap.ExtBut it s.heap h' → (∃ o, h'.get? e = some o ∧ o.cls = .type "StopIteration") → E (.ref e) { s with heap := h' }) :
    wpAny (model prog w) A (Builtin.SmallTypes.nextOf (.ref it)) Q E s := by
  obtain ⟨o, ho, hc, hd⟩ := id hit
  obtain ⟨ol, hol, _, nl, hdl⟩ := ht
  unfold Builtin.SmallTypes.nextOf
  refine wpAny_bind (wpAny_callSpecial?_slot (name := Str.ofString "__next__") hit.typeIs F.slot_tuple_iterator_next
    (wpAny_call_entry F.slot_tuple_iterator_next hit.typeIs F.entry_tuple_iterator_next ?_ (F.args_tuple_iterator_next_1 _)))
  show wpAny _ _ (field (.ref it) 0 >>= _) _ _ s
  refine wpAny_bind (wpAny_field ho hd (x := .ref t) rfl ?_)
  show wpAny _ _ (if (Value.ref t == Value.none) = true then _ else _) _ _ s
  rw [if_neg (show ¬ ((Value.ref t == Value.none) = true) from Bool.false_ne_true)]
  show wpAny _ _ (field (.ref it) 1 >>= _) _ _ s
  refine wpAny_bind (wpAny_field ho hd (x := .int i 0) rfl ?_)
  show wpAny _ _ (seqItems? (.ref t) >>= _) _ _ s
  refine wpAny_bind (wpAny_seqItems hol hdl ?_)
  simp only [Int.toNat_natCast, hx]
  refine wpAny_bind (wpAny_rule (wpAny_bind (wpAny_setField ho hd (by simp) ?_)))
  show wpAny _ _ (newExc (.type "StopIteration") [] >>= _) _ _ _
  refine wpAny_bind ?_
  simp only [newExc, newTuple]
  refine wpAny_bind (wpAny_newObj_type ?_ (by size_fits))
  refine wpAny_bind (m := firstArgMember _ _) (wpAny_of_eq (a := Value.none) (by first | rfl | (simp only [firstArgMember]; rfl)) ?_)
  refine wpAny_newObj_type ?_ (by size_fits)
  simp only [raiseNew]
  refine wpAny_bind (wpAny_handled ?_)
  first | rw [show A.in1.handled = none from hh] | rw [hh]
  refine wpAny_bind (wpAny_pure (wpAny_throw ?_))
  exact hE _ _ (((Heap.SameBut.update ..).extBut.push _).push _) ⟨_, Heap.get?_push_size _ rfl, rfl⟩
end
theorem draws_tup {prog : Program} {w : World} {A : Around} (hh : A.handled = none) (it t : Addr) (hne : t ≠ it) (items : Array Value) :
    Draws prog w A it [it, t] items.size (fun i v => items[i]? = some v) (fun i h => h.IsTupleIter it t i ∧ h.IsTuple t items) where
  live := fun _ _ st => let ⟨o, ho, _⟩ := st.1; ⟨o, ho⟩
  frame := fun _ _ _ st hk => ⟨st.1.at fun o e => hk it (by simp) o e, st.2.at fun o e => hk t (by simp) o e⟩
  item := fun i s Q E hi st hQ => by
    refine nextOf_tup_item st.1 st.2 (x := items[i]) (by simp [hi]) fun h' hit' hs' => ?_
    exact hQ _ h' s.toks (by simp [hi]) ⟨hit', st.2.extBut hs'.extBut hne⟩ hs'
  done := fun s Q E st hE => nextOf_tup_end hh st.1 st.2 (by simp) hE
theorem meets_enumerate_tup (l : Addr) (items : Array Value) (n : Nat) (dct : Option Addr) (sl : Array (Option Value)) :
    Meets (Builtin.«enumerate.__new__» ⟨[.type "enumerate", .ref l], []⟩) (fun _ R s => s.heap.get? l = some { cls := .type "tuple", dict := dct, data := .seq items n, slots := sl } ∧
      R (.ok (.ret (.ref (s.heap.push { cls := .type "tuple_iterator", data := .fields #[.ref l, .int 0 0] }).objs.size)))
        { s with heap := (s.heap.push { cls := .type "tuple_iterator", data := .fields #[.ref l, .int 0 0] }).push { cls := .type "enumerate", data := .fields #[.none, .bool false, .ref s.heap.objs.size, rawInt 0, .none, .none] } }) :=
  .of_wp fun prog w A R s h => by
    obtain ⟨hp, g, d, tk, os⟩ := s; obtain ⟨hl, h⟩ := h
    have hsub := sub_enumerate
    have hL : Heap.IsTuple (Shared.heap ⟨hp, g, d, tk, os⟩) l items := ⟨_, hl, rfl, n, rfl⟩
    wp_walk using wpAny_loadPart' hl
    refine wpAny_stack_any fun st => wpAny_pure ?_
    split
    · rename_i c _ _ _ _ _
      cases (c == Value.type "enumerate")
      · wp_walk using wpAny_loadPart' hl, wpAny_pyIter_tuple hL
        exact ⟨_, rfl, h⟩
      · wp_walk using wpAny_loadPart' hl, wpAny_pyIter_tuple hL
        exact ⟨_, rfl, h⟩
    · wp_walk using wpAny_loadPart' hl, wpAny_pyIter_tuple hL
      exact ⟨_, rfl, h⟩
section
variable {prog : Program} {w : World} {A : Around} {E : Value → Shared → Prop} {s : Shared}
theorem call_enumerate_tup {l : Addr} {items : Array Value} {Q : Value → Shared → Prop} (hL : s.heap.IsTuple l items)
    (h : ∀ h', IsEnum h' (s.heap.objs.size + 1) s.heap.objs.size 0 .none → h'.IsTupleIter s.heap.objs.size l 0 → h'.objs.size = s.heap.objs.size + 2 →
      (∀ b o, s.heap.get? b = some o → h'.get? b = some o) → Q (.ref (s.heap.objs.size + 1)) { s with heap := h' }) :
    wpAny (model prog w) A (call (.type "enumerate") [.ref l]) Q E s := by
  obtain ⟨⟨c, dct, dt, sl⟩, hl, hc, n, hd⟩ := hL
  replace hc : c = .type "tuple" := hc
  replace hd : dt = .seq items n := hd
  subst hc hd
  refine callType_new F.called_enumerate (by decide) (F.typeCall_enumerate_1 _) (F.newCall_enumerate_1 _) (fun obj => F.args_object_init_2 obj _) F.entry_enumerate_new
    (meets_enumerate_tup l items n dct sl) ⟨hl, ?_⟩
  have hz : (s.heap.push { cls := .type "tuple_iterator", data := .fields #[.ref l, .int 0 0] }).objs.size = s.heap.objs.size + 1 := Heap.size_push ..
  show _ ∧ _
  rw [hz]
  have he : IsEnum ((s.heap.push { cls := .type "tuple_iterator", data := .fields #[.ref l, .int 0 0] }).push
      { cls := .type "enumerate", data := .fields #[.none, .bool false, .ref s.heap.objs.size, rawInt 0, .none, .none] }) (s.heap.objs.size + 1) s.heap.objs.size 0 .none := by
    have := Heap.get?_push_size (s.heap.push { cls := .type "tuple_iterator", data := .fields #[.ref l, .int 0 0] })
      (o := { cls := .type "enumerate", data := .fields #[.none, .bool false, .ref s.heap.objs.size, rawInt 0, .none, .none] }) rfl
    rw [hz] at this; exact this
  refine ⟨⟨_, he, rfl⟩, h _ he ⟨_, Heap.get?_push_of_some _ (Heap.get?_push_size _ rfl), rfl, rfl⟩ (by rw [Heap.size_push, hz]) fun b o x => Heap.get?_push_of_some _ (Heap.get?_push_of_some _ x)⟩
end
end Mine
end

section
open PySem PySem.W PyProof.Rows PySem.Calls
set_option Elab.async false
set_option maxRecDepth 100000
set_option linter.unusedVariables false
namespace Mine
def TotInv (i : Nat) (ts : List Int) : Prop := ts.length = 4 ∧ ∀ t ∈ ts, 0 ≤ t ∧ t ≤ 4 + 1000000 * (i : Int)
theorem tot_zero : TotInv 0 [0, 3, 1, 4] := by refine ⟨rfl, ?_⟩; intro t ht; simp at ht; rcases ht with rfl | rfl | rfl | rfl <;> lia
theorem tot_idx {i : Nat} {qs : List Int} (h : TotInv i qs) : 0 ≤ (i : Int).fmod 4 ∧ (i : Int).fmod 4 < (qs.length : Int) ∧ qs.length ≤ 1000000 := by
  rw [Int.fmod_eq_emod_of_nonneg _ (by lia), h.1]; lia
theorem tot_step {i : Nat} {qs : List Int} {y d : Int} {j : Nat} (h : TotInv i qs) (e : qs[j]? = some y) : TotInv (i + 1) (qs.set j (y + d.fmod (10 ^ Int.toNat 6))) := by
  refine ⟨by rw [List.length_set]; exact h.1, fun t ht => ?_⟩
  have hm : (10 : Int) ^ Int.toNat 6 = 1000000 := by decide
  rw [hm, Int.fmod_eq_emod_of_nonneg _ (by lia)] at ht
  rcases List.mem_or_eq_of_mem_set ht with ht | rfl
  · have := h.2 t ht; push_cast; lia
  · have := h.2 y (List.mem_of_getElem? e); push_cast; lia
def TotPost (g : Heap) (r : Value) (h' : Heap) : Prop := ∃ T lv ts ep, r = .ref T ∧ g.get? T = none ∧ h'.get? T = some (listOf (List.toArray lv) ep) ∧ IntsAre lv ts ∧ ts.length = 4 ∧ ∀ t ∈ ts, 0 ≤ t ∧ t ≤ 100000000
theorem tot_post {g h' : Heap} {L T : Addr} {lv : List Value} {ts ns : List Int} {ep : Nat} {nw : List (Addr × Obj)} (N : News g L h' nw) (hm : (T, listOf (List.toArray lv) ep) ∈ nw) (hI : IntsAre lv ts) (h : TotInv (ns.take 63).length ts) : TotPost g (.ref T) h' := by
  refine ⟨T, lv, ts, ep, rfl, (N _ hm).2.2, (N _ hm).1, hI, h.1, fun t ht => ?_⟩
  have := h.2 t ht
  have h2 : (ns.take 63).length ≤ 63 := by rw [List.length_take]; lia
  lia
section
variable {prog : Program} {w : World} {A : Around} {E : Value → Shared → Prop} {s : Shared} {env : Env} {h₀ : Heap} {body : List Stmt} {Q : Flow → Shared → Prop} {m₀ : Str → Option Value} {news : List (Addr × Obj)}
theorem tot_loop {elts : List Expr} {k : Nat} {pos : Pos} {l lq : Addr} {vs : List Value} {ds : List Int} {ep e0 : Nat} {t1 t2 t3 t4 : Tok} {gg : Obj → List (Addr × Obj)} (hh : A.handled = none) (F : Fr h₀ env.locals s.heap m₀)
    (N : News h₀ env.locals s.heap news) (hm : (l, listOf (List.toArray vs) ep) ∈ news) (hi : IntsAre vs ds) (_hq : m₀ (Str.ofString "totals") = some (.ref lq)) (U : UpdF lq (listOf #[.int 0 t1, .int 3 t2, .int 1 t3, .int 4 t4] e0) news gg) (hne : @Ne Nat l lq)
    (turn : ∀ I i d t td T lv ep' qs u1 u2 o1 o2 h tk, (∀ p ∈ news, p.1 < I) → i < ds.length → ds[i]? = some d → TotInv i qs → IntsAre lv qs → IsTup h T #[.int (i : Int) t, .int d td] → o1.cls = .type "enumerate" → o2.cls = .type "list_iterator" →
      Fr h₀ env.locals h (enMap (Str.ofString "place") (Str.ofString "drawn") m₀ u1 u2) → News h₀ env.locals h ((I + 1, o1) :: (I, o2) :: gg (listOf (List.toArray lv) ep')) →
      wpAny (model prog w) A (assign (.Tuple elts k pos) env (.ref T)) (fun _ s₃ => wpAny (model prog w) A (execs body env) (EnEnd h₀ env.locals I o1 o2 (Str.ofString "place") (Str.ofString "drawn") gg m₀ (TotInv (i + 1)) s) E s₃) E { s with heap := h, toks := tk })
    (done : ∀ lv ep' qs u1 u2 h tk, TotInv ds.length qs → IntsAre lv qs → Fr h₀ env.locals h (enMap (Str.ofString "place") (Str.ofString "drawn") m₀ u1 u2) → News h₀ env.locals h (gg (listOf (List.toArray lv) ep')) → Q .next { s with heap := h, toks := tk }) :
    wpAny (model prog w) A (call (.type "enumerate") [.ref l]) (fun xv s₁ => wpAny (model prog w) A (pyIter xv) (fun it s₂ => TurnsAt prog w A h₀ env (.Tuple elts k pos) body Q E it s₂) E s₁) E s :=
  en_turns TotInv hh F N hm hi U hne (.cons _ _ (.cons _ _ (.cons _ _ (.cons _ _ .nil)))) tot_zero turn done
end
end Mine
end

section
open PySem PySem.W PyProof.Rows PySem.Calls
set_option Elab.async false
set_option maxRecDepth 100000
set_option maxHeartbeats 8000000
namespace Mine
section
variable {w : World} {p : Program} {loose : List Str} {mean : ExcName → Option Value} {mg mb : Str → Option Value}
theorem fillTt : ∀ h : Heap, (Mine.hd.heap_39 w.params).In h → PySem.Challenge.rw_xg0080_01 = PySem.Challenge.rw_xg0080_01 := by k_fill; intro _ _; rfl
theorem tt_con (l : Addr) (vs : List Value) (ns : List Int) (hi : IntsAre vs ns) (hlen : ns.length ≤ 63) : Con w p loose mean mg mb 165 [.ref l] 10 80 [] (fun h => h.IsList l vs.toArray) TotPost := by
  refine' con_of0 ?k6 ?k7 ?kd ?k9 ?kB ?c5 ?c2 ?c3 ?c4 ?_
  case k6 => k_is
  case k7 => k_is
  case kd => decide
  case k9 => exact rfl
  case kB => exact locs rfl
  case c5 => decide
  case c2 => exact rfl
  case c3 => exact rfl
  case c4 => exact rfl
  intro dp un gd outer A₀ base g L' h₁ s Q E B' F' N' X' T' hdp hun hl hret
  have hl2 : g.IsList l vs.toArray := hl
  clear hl
  have hl3 : vs.length = ns.length := hi.length
  (try k_fold)
  repeat' (
    first
    | (k_unfold; (try dsimp only)) | (k_end; wrow_close)
    | ((with_reducible show wpAny _ _ (call (Value.type "enumerate") _ _) _ _ _); (k_here; (with_reducible rename Fr _ _ _ _ => wF); (with_reducible rename News _ _ _ _ => wN); k_dflt (refine' tot_loop ?hh ?wF ?wN ?k5 ?k6 ?k1 ?k7 ?k8 ?_ ?_; (case hh => exact rfl); (case wF => exact wF); (case wN => exact wN); (case k5 => k_mem); (case k6 => assumption); (case k1 => exact rfl); (case k7 => k_updF); (case k8 => omega)); (intro I' i' d' t' td' T' lv' ep' qs' u1' u2' o1' o2' h' tk' l1 e1' e2' e3' e4' e5' e6' e7' F' N'; (try k_lt l1); (try dsimp only at N')); rotate_left; (intro lv' ep' qs' u1' u2' h' tk' e1' e2' F' N'; (try dsimp only at N'); (try dsimp only); (try k_fold))))
    | ((with_reducible show wpAny _ _ (exec (Stmt.For _ _ _ _ _) _) _ _ _); (k_here; k_dflt (refine For_turns (by k_asm) ?_)))
    | ((with_reducible show wpAny _ _ (setItem (Value.ref _) (Value.int _ _) _) _ _ _); (k_here; (with_reducible show wpAny _ _ (setItem (Value.ref _) (Value.int _ _) (Value.int _ _)) _ _ _); k_dflt (refine' g_setI ?k1 ?k2 ?k3 ?k4 ?_ ?_; (case k1 => k_asm); (case k2 => k_asm); (case k3 => k_updF); (case k4 => with_reducible assumption)); rotate_left; intro h' lv' ep' hI' F' N'; (try dsimp only at N')))
    | ((with_reducible show wpAny _ _ (getItem (Value.ref _) (Value.int _ _)) _ _ _); (k_here; (with_reducible show wpAny _ _ (getItem (Value.ref _) (Value.int _ _)) _ _ _); k_dflt (refine' g_getI ?k1 ?k2 ?k3 ?_ ?_; (case k1 => k_asm); (case k2 => k_mem); (case k3 => with_reducible assumption)); rotate_left; intro y' ty' ey'))
    | walk1 | (dsimp only; walk1) | (leave1; walk_say "STEP leave1"; try dsimp only) | fail "no step")
  all_goals (first
    | exact ⟨tot_idx (by assumption)⟩
    | exact hret _ _ _ (Fr.keep (by assumption)) (tot_post (by assumption) (by k_mem) (by assumption) (by assumption))
    | (refine' ⟨rfl, _, _, _, _, _, _, rfl, ?a1, ?a2, ?a3, ?a4, ?a6⟩
       case a1 => assumption
       case a3 => assumption
       case a2 => assumption
       case a4 => exact tot_step (by assumption) (by assumption)
       case a6 => intro y h1 h2; simp +zetaDelta [enMap, h1, h2])
    | skip)
end
end Mine
end

section
open PySem PySem.W PyProof.Rows PySem.Calls LCp LCg
set_option Elab.async false
set_option maxRecDepth 100000
set_option maxHeartbeats 1000000
set_option linter.unusedVariables false
namespace Mine
theorem ints_snoc_take {ys : List Value} {ts : List Int} {i : Nat} {c : Int} {t : Tok} (h : IntsAre ys (ts.take i)) (e : ts[i]? = some c) : IntsAre (ys ++ [.int c t]) (ts.take (i + 1)) := by
  rw [List.take_add_one, e]
  exact h.append (.cons c t .nil)
section
variable {prog : Program} {w : World} {A : Around} {E : Value → Shared → Prop} {s : Shared} {h₀ : Heap} {L : Addr} {m : Str → Option Value} {env : Env}
theorem fr_wr {h h' : Heap} {wr : List Addr} (F : Fr h₀ L h m) (hk : ∀ b o, b ∉ wr → h.get? b = some o → h'.get? b = some o) (hL : L ∉ wr) (hw : ∀ b ∈ wr, h₀.get? b = none) : Fr h₀ L h' m :=
  ⟨F.ns.at' fun o e => hk L o hL e, fun b o e => hk b o (fun hm => by rw [hw b hm] at e; cases e) (F.keep b o e), F.above⟩
theorem news_wr {h h' : Heap} {wr : List Addr} {news : List (Addr × Obj)} (N : News h₀ L h news) (hk : ∀ b o, b ∉ wr → h.get? b = some o → h'.get? b = some o) (off : ∀ p ∈ news, p.1 ∉ wr) : News h₀ L h' news :=
  fun p hp => ⟨hk _ _ (off p hp) (N p hp).1, (N p hp).2⟩
theorem news_put {h h' : Heap} {D : Addr} {news : List (Addr × Obj)} (N : News h₀ L h news) (hk : ∀ b o, b ≠ D → h.get? b = some o → h'.get? b = some o) (off : ∀ p ∈ news, p.1 ≠ D) : News h₀ L h' news :=
  fun p hp => ⟨hk _ _ (off p hp) (N p hp).1, (N p hp).2⟩

theorem block_Z {x x₂ : Str} {p1 p2 p3 px px₂ tp : Pos} {iter : Expr} {tk} {scope : Scope} {cl : List (Str × Addr)} {pos : Pos} {s₂ : Shared} {I : Addr} {fp wr : List Addr} {n : Nat} {Pt : Nat → Array Value → Prop} {St : Nat → Heap → Prop} {Mid : Nat → Addr → Heap → Prop} {news : List (Addr × Obj)} {ts : List Int}
    {RR : Value → Addr → Result → Shared → Prop}
    (W : WalksT prog w A I fp wr n Pt St Mid) (hsz : n ≤ 1000000) (hts : ∀ i vals, i < n → Pt i vals → ∃ a t b u, vals = #[.int a t, .int b u] ∧ ts[i]? = some (a + b)) (htn : ts.length = n)
    (hcell : ∀ y ∈ scope.names, y.2 ≠ .cell) (hkind : scope.kind = .function) (hx : scope.names.lookup x = some .local) (hx₂ : scope.names.lookup x₂ = some .local) (hxx : x ≠ x₂)
    (hd1 : (x == ("__debug__" : Str)) = false) (hd2 : (x₂ == ("__debug__" : Str)) = false)
    (hh : A.handled = none) (hst : St 0 s₂.heap) (hfp : ∀ b ∈ fp, b < s₂.heap.objs.size)
    (F : Fr h₀ L s₂.heap m) (N : News h₀ L s₂.heap news) (hLw : L ∉ wr) (hw₀ : ∀ b ∈ wr, h₀.get? b = none) (off : ∀ p ∈ news, p.1 ∉ wr)
    (hRR : ∀ D C h tk m' ys, IntsAre ys ts → Fr h₀ L h m → News h₀ L h ((D, lst ys) :: news) → (∀ p ∈ news, p.1 ≠ D) → h.Ns C m' → h₀.get? C = none → h₀.get? D = none → C ≠ L → D ≠ L → C ≠ D → (∀ p ∈ news, p.1 ≠ C) → RR (.ref D) C (.ok .next) { s₂ with heap := h, toks := tk }) :
    wpAny (model prog w) A (newList []) (fun acc s₃ => wpAny (model prog w) A (newFunctionEnv scope env.globals cl [] env.qual none .none (some env)) (fun cenv s₄ =>
      codeAny (model prog w) A (.compStart (.ListComp (.BinOp (.Name x p1) .Add (.Name x₂ p2) p3) [⟨.Tuple [.Name x px, .Name x₂ px₂] tk tp, iter, [], 0⟩] scope pos) 0 (.ref I) acc { cenv with scope := relabel scope env }) (RR acc cenv.locals) s₄) E s₃) E s₂ := by
  refine wpAny_newObj_type (wpAny_newFunctionEnv hcell (by intro y hy; simp at hy) (fun h₁ hns₁ hsb₁ => ?_) hkind)
  dsimp only at hns₁ hsb₁ ⊢
  generalize hH2 : s₂.heap.push { cls := .type "list", dict := none, data := .seq ([] : List Value).toArray } = H2 at hns₁ hsb₁ ⊢
  have hC : H2.objs.size = s₂.heap.objs.size + 1 := by rw [← hH2, Heap.size_push]
  have hDC : s₂.heap.objs.size ≠ H2.objs.size := by rw [hC]; exact Nat.ne_of_lt (Nat.lt_succ_self _)
  have below : ∀ b, b < s₂.heap.objs.size → b ≠ H2.objs.size ∧ b ≠ s₂.heap.objs.size := fun b hb => ⟨by rw [hC]; exact Nat.ne_of_lt (Nat.lt_succ_of_lt hb), Nat.ne_of_lt hb⟩
  have hDf : s₂.heap.objs.size ∉ fp := fun hm => Nat.lt_irrefl _ (hfp _ hm)
  have hCf : H2.objs.size ∉ fp := fun hm => by have := hfp _ hm; rw [hC] at this; exact Nat.lt_irrefl _ (Nat.lt_of_succ_lt this)
  have old : ∀ b o, s₂.heap.get? b = some o → h₁.get? b = some o := fun b o e => hsb₁.extBut b o (below b (Heap.lt_size e)).1 (Heap.get?_push_of_some _ (hH2 ▸ Heap.get?_push_of_some _ e))
  have hacc : h₁.get? s₂.heap.objs.size = some (lst []) := hsb₁.extBut _ _ hDC (Heap.get?_push_of_some _ (hH2 ▸ Heap.get?_push_size _ rfl))
  have hst₁ : St 0 h₁ := W.frame _ _ _ hst fun b _ o e => old b o e
  have fresh : ∀ a, s₂.heap.objs.size ≤ a → s₂.heap.get? a = none := fun a ha => by
    cases e : s₂.heap.get? a with
    | none => rfl
    | some o' => exact absurd (Heap.lt_size e) (Nat.not_lt.mpr ha)
  have fresh₀ : ∀ a, s₂.heap.objs.size ≤ a → h₀.get? a = none := fun a ha => by
    cases e : h₀.get? a with
    | none => rfl
    | some o' => have := F.keep a o' e; rw [fresh a ha] at this; cases this
  have hD₀ : h₀.get? s₂.heap.objs.size = none := fresh₀ _ (Nat.le_refl _)
  have hC₀ : h₀.get? H2.objs.size = none := fresh₀ _ (by rw [hC]; exact Nat.le_succ _)
  have hLlt : L < s₂.heap.objs.size := F.ns.lt
  have hDL : s₂.heap.objs.size ≠ L := Ne.symm (below L hLlt).2
  have hCL : H2.objs.size ≠ L := Ne.symm (below L hLlt).1
  have hCw : H2.objs.size ∉ wr := fun q => hCf (W.sub _ q)
  have hDw : s₂.heap.objs.size ∉ wr := fun q => hDf (W.sub _ q)
  have nD : ∀ p ∈ news, p.1 ≠ s₂.heap.objs.size := fun p hp => (below _ (Heap.lt_size (N p hp).1)).2
  have nC : ∀ p ∈ news, p.1 ≠ H2.objs.size := fun p hp => (below _ (Heap.lt_size (N p hp).1)).1
  have loop : ∀ s₃ : Shared, s₃ = { s₂ with heap := h₁, toks := s₂.toks + ([] : List (Str × Value)).length } →
      codeAny (model prog w) A (.compLoop (.ListComp (.BinOp (.Name x p1) .Add (.Name x₂ p2) p3) [⟨.Tuple [.Name x px, .Name x₂ px₂] tk tp, iter, [], 0⟩] scope pos) 0 (.ref I) (.ref s₂.heap.objs.size) (compEnvC scope cl H2.objs.size env))
        (RR (.ref s₂.heap.objs.size) H2.objs.size) s₃ := by
    rintro s₃ rfl
    refine codeAny_compLoop_pair
      (fun k s' => ∃ h' tk i ys m', s' = { s₂ with heap := h', toks := tk } ∧ i ≤ n ∧ k = n + 1 - i ∧ IntsAre ys (ts.take i) ∧ St i h' ∧ Fr h₀ L h' m ∧ h'.Ns H2.objs.size m' ∧ News h₀ L h' ((s₂.heap.objs.size, lst ys) :: news)) ?_ (n + 1)
      ⟨h₁, _, 0, [], _, rfl, Nat.zero_le _, rfl, by rw [List.take_zero]; exact .nil, hst₁, F.keeps old, hns₁, fun p hp => ?_⟩
    · rintro k s' ⟨h', tk, i, ys, m', rfl, hi, rfl, hyl, hst', F', hn', N'⟩
      by_cases hlt : i < n
      · refine W.item i _ _ _ hlt hst' fun T vals h₂ tk₂ hPv hT hTu hmid hk₂ => ?_
        obtain ⟨a, ta, b, tb, rfl, hab⟩ := hts i vals hlt hPv
        refine W.go _ _ _ i T _ _ _ hmid fun h₃ hst₃ hk₃ => ?_
        have hT₃ : h₃.IsTuple T #[.int a ta, .int b tb] := hTu.at fun o e => hk₃ T o (W.apart i T _ hmid) e
        have hk23 : ∀ b o, b ∉ wr → h'.get? b = some o → h₃.get? b = some o := fun b o hb e => hk₃ b o hb (hk₂ b o hb e)
        have offD : ∀ p ∈ ((s₂.heap.objs.size, lst ys) :: news), p.1 ∉ wr := fun p hp => by
          rcases List.mem_cons.mp hp with rfl | hp
          · exact hDw
          · exact off p hp
        have N₃ := news_wr N' hk23 offD
        have F₃ := fr_wr F' hk23 hLw hw₀
        have hn₃ : h₃.Ns H2.objs.size m' := hn'.at' fun o e => hk23 _ o hCw e
        refine assign_Tuple_tuple hh hT₃ rfl rfl fun h₅ he => ?_
        have he' : ∀ b o, h₃.get? b = some o → h₅.get? b = some o := fun b o e => he b o (Nat.ne_of_lt (Heap.lt_size e)) e
        refine assignInOrder_cons (wpAny_assign_Name (wpAny_storeName_local (lookup_relabel_local hx) (hn₃.at' fun o e => he' _ o e) (fun h₆ hn₆ hs₆ => ?_) (by simp [compEnvC, relabel, hkind])))
        refine assignInOrder_cons (wpAny_assign_Name (wpAny_storeName_local (lookup_relabel_local hx₂) hn₆ (fun h₇ hn₇ hs₇ => ?_) (by simp [compEnvC, relabel, hkind])))
        refine assignInOrder_nil ?_
        have old7 : ∀ b o, b ≠ H2.objs.size → h₃.get? b = some o → h₇.get? b = some o := fun b o hb e => hs₇.extBut b o hb (hs₆.extBut b o hb (he' b o e))
        have hst₇ : St (i + 1) h₇ := W.frame _ _ _ hst₃ fun b hb o e => old7 b o (fun q => hCf (by rw [← q]; exact hb)) e
        have F₇ : Fr h₀ L h₇ m := ((F₃.keeps he').change hs₆ hCL hC₀).change hs₇ hCL hC₀
        have N₇ : News h₀ L h₇ ((s₂.heap.objs.size, lst ys) :: news) := news_put N₃ old7 fun p hp => by
          rcases List.mem_cons.mp hp with rfl | hp
          · exact hDC
          · exact nC p hp
        have hk1 : (compEnvC scope cl H2.objs.size env).scope.kind = .function := by simp [compEnvC, relabel, hkind]
        refine wpAny_BinOp (wpAny_Name (wpAny_loadName_local hk1 (lookup_relabel_local hx) hn₇ (v := .int a ta) (by simp [hxx]) ?_) hd1)
        refine wpAny_Name (wpAny_loadName_local hk1 (lookup_relabel_local hx₂) hn₇ (v := .int b tb) (by simp) ?_) hd2
        refine g_add ?_
        have zD := (N₇ (s₂.heap.objs.size, lst ys) List.mem_cons_self).1
        have hyl' : ys.length = i := by rw [hyl.length, List.length_take, htn]; lia
        refine append_at (hsz := by show ys.toArray.size ≤ sizeLine; rw [List.size_toArray, hyl', sizeLine_eq]; lia) zD fun h₈ hs₈ hD₈ => ?_
        refine' ⟨n + 1 - (i + 1), by lia, h₈, _, i + 1, _, _, rfl, hlt, rfl, ints_snoc_take hyl hab, W.frame _ _ _ hst₇ fun b hb o e => hs₈.extBut b o (fun q => hDf (q ▸ hb)) e, F₇.change hs₈ hDL hD₀, hn₇.sameBut hs₈ (Ne.symm hDC), ?nw⟩
        case nw =>
          intro p hp
          rcases List.mem_cons.mp hp with rfl | hp
          · exact ⟨hD₈.trans (congrArg some (lst_snoc ys _)), hDL, hD₀⟩
          · exact ⟨hs₈.extBut _ _ (nD p hp) (N₇ p (List.mem_cons_of_mem _ hp)).1, (N₇ p (List.mem_cons_of_mem _ hp)).2⟩
      · obtain rfl : i = n := Nat.le_antisymm hi (Nat.not_lt.mp hlt)
        refine W.done _ _ _ hst' fun h₂ tk₂ hk₂ => ?_
        rw [← htn, List.take_length] at hyl
        refine hRR _ _ h₂ tk₂ _ ys hyl (fr_wr F' hk₂ hLw hw₀) (news_wr N' hk₂ fun p hp => ?_) nD (hn'.at' fun o e => hk₂ _ o hCw e) hC₀ hD₀ hCL hDL (Ne.symm hDC) nC
        rcases List.mem_cons.mp hp with rfl | hp
        · exact hDw
        · exact off p hp
    · rcases List.mem_cons.mp hp with rfl | hp
      · exact ⟨hacc, hDL, hD₀⟩
      · exact ⟨old _ _ (N p hp).1, (N p hp).2⟩
  exact codeAny_compStart_list (loop _ rfl) (W.self 0 _ _ _ hst₁ (loop _ rfl))
end
end Mine
end

section
open PySem PySem.W PyProof.Rows PySem.Calls LCp LCg
set_option Elab.async false
set_option maxRecDepth 100000
set_option maxHeartbeats 1000000
set_option linter.unusedVariables false
namespace Mine
def zsum (xs ys : List Int) : List Int := List.zipWith (· + ·) xs ys
section
variable {prog : Program} {w : World} {A : Around} {E : Value → Shared → Prop} {s : Shared} {h₀ : Heap} {L : Addr} {m : Str → Option Value} {env : Env} {news : List (Addr × Obj)}
def ZSrc (prog : Program) (w : World) (A : Around) (h₀ : Heap) (L : Addr) (m : Str → Option Value) (y : Str) (Q : Flow → Shared → Prop) (xv : Value) (s₁ : Shared) : Prop :=
  ∃ (I : Addr) (fp wr : List Addr) (n : Nat) (Pt : Nat → Array Value → Prop) (St : Nat → Heap → Prop) (Mid : Nat → Addr → Heap → Prop) (news : List (Addr × Obj)) (ts : List Int),
    xv = .ref I ∧ WalksT prog w A I fp wr n Pt St Mid ∧ n ≤ 1000000 ∧ (∀ i vals, i < n → Pt i vals → ∃ a t b u, vals = #[.int a t, .int b u] ∧ ts[i]? = some (a + b)) ∧ ts.length = n ∧ A.handled = none ∧ St 0 s₁.heap ∧ (∀ b ∈ fp, b < s₁.heap.objs.size) ∧
    Fr h₀ L s₁.heap m ∧ News h₀ L s₁.heap news ∧ L ∉ wr ∧ (∀ b ∈ wr, h₀.get? b = none) ∧ (∀ p ∈ news, p.1 ∉ wr) ∧
    ∀ D h tk ys, IntsAre ys ts → Fr h₀ L h (fun z => if z = y then some (.ref D) else m z) → News h₀ L h ((D, lst ys) :: news) → (∀ p ∈ news, p.1 ≠ D) → Q .next { s₁ with heap := h, toks := tk }

theorem zsum_get {xs ys : List Int} {i : Nat} {a b : Int} (h1 : xs[i]? = some a) (h2 : ys[i]? = some b) : (zsum xs ys)[i]? = some (a + b) := by
  simp [zsum, List.getElem?_zipWith, h1, h2]
theorem zip_src {y : Str} {Q : Flow → Shared → Prop} {l1 l2 : Addr} {v1 v2 : List Value} {k1 k2 : Nat} {a1 a2 : List Int} (hh : A.handled = none) (F : Fr h₀ L s.heap m) (N : News h₀ L s.heap news) (hm1 : (l1, listOf (List.toArray v1) k1) ∈ news) (hm2 : (l2, listOf (List.toArray v2) k2) ∈ news) (I1 : IntsAre v1 a1) (I2 : IntsAre v2 a2)
    (h0 : Owe (a1.length ≤ 1000000))
    (h : ∀ D h tk ys, IntsAre ys (zsum a1 a2) → Fr h₀ L h (fun z => if z = y then some (.ref D) else m z) → News h₀ L h ((D, lst ys) :: news) → (∀ p ∈ news, p.1 ≠ D) → Q .next { s with heap := h, toks := tk }) :
    wpAny (model prog w) A (call (.type "zip") [.ref l1, .ref l2]) (ZSrc prog w A h₀ L m y Q) E s := by
  have hax1 := N _ hm1
  have hax2 := N _ hm2
  have hl1 : s.heap.IsList l1 v1.toArray := ⟨_, hax1.1, rfl, _, rfl⟩
  have hl2 : s.heap.IsList l2 v2.toArray := ⟨_, hax2.1, rfl, _, rfl⟩
  have hlt1 : l1 < s.heap.objs.size := Heap.lt_size hax1.1
  have hlt2 : l2 < s.heap.objs.size := Heap.lt_size hax2.1
  have hLs : L < s.heap.objs.size := F.ns.lt
  have D : ZipApart (s.heap.objs.size + 4) (s.heap.objs.size + 2) (s.heap.objs.size + 3) s.heap.objs.size (s.heap.objs.size + 1) l1 l2 := ktu_apart _ _ _ hlt1 hlt2
  have big : ∀ b ∈ [s.heap.objs.size + 4, s.heap.objs.size + 3, s.heap.objs.size, s.heap.objs.size + 1], s.heap.objs.size ≤ b := by
    intro b hb
    simp at hb
    rcases hb with rfl | rfl | rfl | rfl
    · exact Nat.le_add_right _ _
    · exact Nat.le_add_right _ _
    · exact Nat.le_refl _
    · exact Nat.le_add_right _ _
  refine call_zip_2 hl1 hl2 fun h' hz hTI hTO hi1 hi2 hsz hk => ?_
  have e1 : v1.toArray.size = a1.length := by rw [List.size_toArray]; exact I1.length
  have e2 : v2.toArray.size = a2.length := by rw [List.size_toArray]; exact I2.length
  refine ⟨_, _, _, _, _, _, _, news, zsum a1 a2, rfl, WalksT.zip2 hh _ _ _ _ _ _ _ D v1.toArray v2.toArray, ?_, ?_, ?_, hh, ?_, ?_, F.keeps hk, N.grown hk, ?_, ?_, ?_, h⟩
  · have := h0.out; rw [e1]; lia
  · rintro i vals hi ⟨x, y', hx, hy, rfl⟩
    obtain ⟨a, ta, rfl, ha⟩ := I1.at i x (by simpa using hx)
    obtain ⟨b, tb, rfl, hb⟩ := I2.at i y' (by simpa using hy)
    exact ⟨a, ta, b, tb, rfl, zsum_get ha hb⟩
  · rw [e1, e2]; simp [zsum]
  · exact ⟨hz, hTI, ⟨_, _, hTO⟩, hi1, hi2, hl1.at fun o e => hk _ o e, hl2.at fun o e => hk _ o e⟩
  · intro b hb
    have hb' : b = s.heap.objs.size + 4 ∨ b = s.heap.objs.size + 2 ∨ b = s.heap.objs.size + 3 ∨ b = s.heap.objs.size ∨ b = s.heap.objs.size + 1 ∨ b = l1 ∨ b = l2 := by simpa using hb
    show b < h'.objs.size
    rw [hsz]
    rcases hb' with rfl | rfl | rfl | rfl | rfl | rfl | rfl
    · exact Nat.add_lt_add_left (by decide) _
    · exact Nat.add_lt_add_left (by decide) _
    · exact Nat.add_lt_add_left (by decide) _
    · exact Nat.lt_add_of_pos_right (by decide)
    · exact Nat.add_lt_add_left (by decide) _
    · exact Nat.lt_of_lt_of_le hlt1 (Nat.le_add_right _ _)
    · exact Nat.lt_of_lt_of_le hlt2 (Nat.le_add_right _ _)
  · intro q; exact Nat.lt_irrefl _ (Nat.lt_of_lt_of_le hLs (big _ q))
  · intro b hb; exact ktu_new F (big b hb)
  · intro p hp q; exact Nat.lt_irrefl _ (Nat.lt_of_lt_of_le (Heap.lt_size (N p hp).1) (big _ q))

theorem Assign_Z {iter : Expr} {x x₂ y : Str} {p1 p2 p3 px px₂ tp py : Pos} {tk} {scope : Scope} {cl : List (Str × Addr)} {pos spos : Pos} {Q : Flow → Shared → Prop} (F₀ : Fr h₀ L s.heap m) (hLe : env.locals = L)
    (hsw : swapsWith (.ListComp (.BinOp (.Name x p1) .Add (.Name x₂ p2) p3) [⟨.Tuple [.Name x px, .Name x₂ px₂] tk tp, iter, [], 0⟩] scope pos) (some (.Name y py)) spos.line env = pure true)
    (hclos : closureFor scope env = pure cl) (hcell : ∀ z ∈ scope.names, z.2 ≠ .cell) (hkind : scope.kind = .function)
    (hnames : ∀ z ∈ scope.names, z.2 = .local → scope.names.lookup z.1 = some .local) (hx : scope.names.lookup x = some .local) (hx₂ : scope.names.lookup x₂ = some .local) (hxx : x ≠ x₂)
    (hd1 : (x == ("__debug__" : Str)) = false) (hd2 : (x₂ == ("__debug__" : Str)) = false)
    (hy : env.kindOf y = some .local) (hp : (env.scope.kind == .class || (env.scope.kind == .module && env.locals != env.globals)) = false)
    (h : wpAny (model prog w) A (eval iter env) (ZSrc prog w A h₀ L m y Q) E s)
    (hs : ∀ x, foldedSetIterable iter env x = pure x := by intro _; rfl) :
    wpAny (model prog w) A (exec (.Assign [.Name y py] (.ListComp (.BinOp (.Name x p1) .Add (.Name x₂ p2) p3) [⟨.Tuple [.Name x px, .Name x₂ px₂] tk tp, iter, [], 0⟩] scope pos) spos) env) Q E s := by
  subst hLe
  rw [exec_Assign_Name_used _ _ _ _ hsw]
  refine wpAny_bind (wpAny_standAt (wpAny_bind ?_))
  show wpAny _ A (do let _ ← comprehension (.ListComp (.BinOp (.Name x p1) .Add (.Name x₂ p2) p3) [⟨.Tuple [.Name x px, .Name x₂ px₂] tk tp, iter, [], 0⟩] scope pos) scope env _ (newList []) false (eval iter env) (some (assign (.Name y py) env))) _ _ s
  refine wpAny_bind (wpAny_mono (wpAny_comprehension_free (use := some (assign (.Name y py) env)) (Q := fun _ s' => Q .next s') rfl hs hclos hkind hnames
    (wpAny_mono h (fun xv s₁ h₁ => ?_) fun _ _ e => e)) (fun _ s' hq => wpAny_pure (wpAny_pure hq)) fun _ _ e => e)
  obtain ⟨I, fp, wr, n, Pt, St, Mid, news, ts, rfl, W, hsz, hts, htn, hh, hst, hfp, F, N, hLw, hw₀, off, fin⟩ := h₁
  refine W.self 0 _ _ _ hst ?_
  refine block_Z W hsz hts htn hcell hkind hx hx₂ hxx hd1 hd2 hh hst hfp F N hLw hw₀ off ?_
  intro D C h' tk m' ys hI F' N' offD hn hC₀ hD₀ hCL hDL hCD offC
  show wpAny _ A (assign (.Name y py) env (.ref D)) _ _ _
  refine wpAny_assign_Name (wpAny_storeName_local hy F'.ns (fun h₂ hn₂ hs₂ => ?_) hp)
  have hL₀ : h₀.get? env.locals = none := Heap.get?_none_of_le F'.above
  have F₂ : Fr h₀ env.locals h₂ (fun z => if z = y then some (.ref D) else m z) := ⟨hn₂, fun b o e => hs₂.extBut b o (fun q => by rw [q, hL₀] at e; cases e) (F'.keep b o e), F'.above⟩
  refine ⟨m', hn.sameBut hs₂ hCL, fun h'' hs'' => fin D h'' _ ys hI (F₂.change hs'' hCL hC₀) (fun p hp => ?_) offD⟩
  have z : h₂.get? p.1 = some p.2 := hs₂.extBut _ _ (N' p hp).2.1 (N' p hp).1
  refine ⟨hs''.extBut _ _ ?_ z, (N' p hp).2⟩
  rcases List.mem_cons.mp hp with rfl | hp
  · exact Ne.symm hCD
  · exact offC p hp
end
end Mine
end

section
open PySem PySem.W PyProof.Rows PySem.Calls
set_option Elab.async false
set_option maxRecDepth 100000
set_option linter.unusedVariables false
namespace Mine
def wstep (ws : List Int) (c : Int) : List Int := zsum (ws ++ List.replicate c.toNat 0) (List.replicate c.toNat 0 ++ ws)
def waysOf (cs : List Int) : List Int := cs.foldl wstep [1]
def WaysOk (cs : List Int) : Prop := cs.length ≤ 4 ∧ ∀ c ∈ cs, 1 ≤ c ∧ c ≤ 8
theorem wstep_len (ws : List Int) (c : Int) : (wstep ws c).length = ws.length + c.toNat := by simp [wstep, zsum]; lia
theorem waysOf_snoc {cs : List Int} {i : Nat} {c : Int} (h : cs[i]? = some c) : waysOf (cs.take (i + 1)) = wstep (waysOf (cs.take i)) c := by
  rw [List.take_add_one, h]; simp [waysOf, List.foldl_append]
theorem waysOf_len_aux : ∀ (cs : List Int) (ws : List Int) , (∀ c ∈ cs, 1 ≤ c ∧ c ≤ 8) → (cs.foldl wstep ws).length ≤ ws.length + 8 * cs.length
  | [], ws, _ => by simp
  | c :: r, ws, h => by
    have ih := waysOf_len_aux r (wstep ws c) fun x hx => h x (.tail _ hx)
    have := h c (.head _)
    rw [wstep_len] at ih
    simp only [List.foldl_cons, List.length_cons]
    lia
theorem waysOf_len {cs : List Int} (h : WaysOk cs) (i : Nat) : (waysOf (cs.take i)).length ≤ 33 := by
  have := waysOf_len_aux (cs.take i) [1] fun c hc => h.2 c (List.mem_of_mem_take hc)
  have h2 : (cs.take i).length ≤ 4 := by rw [List.length_take]; have := h.1; lia
  simp only [List.length_singleton] at this
  unfold waysOf
  lia
section
variable {prog : Program} {w : World} {A : Around} {E : Value → Shared → Prop} {s : Shared} {env : Env} {h₀ : Heap} {body : List Stmt} {Q : Flow → Shared → Prop} {m₀ : Str → Option Value} {news : List (Addr × Obj)}
/-- a loop over a list among what is kept -/
theorem lst_turns {x : Str} {px : Pos} {l : Addr} {vs : List Value} (hh : A.handled = none) (F : Fr h₀ env.locals s.heap m₀) (N : News h₀ env.locals s.heap news) (hl₀ : h₀.IsList l vs.toArray)
    (J : Addr → Nat → (Str → Option Value) → List (Addr × Obj) → Prop) (h0 : ∀ I, (∀ p ∈ news, p.1 < I) → J I 0 m₀ news) (hJ : ∀ I i m n₁, J I i m n₁ → ∀ p ∈ n₁, p.1 ≠ I)
    (turn : ∀ I i v m₁ n₁ h tk it, vs[i]? = some v → J I i m₁ n₁ → it.cls = .type "list_iterator" → Fr h₀ env.locals h m₁ → News h₀ env.locals h ((I, it) :: n₁) →
      wpAny (model prog w) A (assign (.Name x px) env v) (fun _ s₃ => wpAny (model prog w) A (execs body env) (TEnd h₀ env.locals [(I, it)] (J I (i + 1)) { s with heap := h, toks := tk } Q) E s₃) E { s with heap := h, toks := tk })
    (done : ∀ I m₁ n₁ h tk, J I vs.length m₁ n₁ → Fr h₀ env.locals h m₁ → News h₀ env.locals h n₁ → Q .next { s with heap := h, toks := tk }) :
    wpAny (model prog w) A (pyIter (.ref l)) (fun it s₂ => TurnsAt prog w A h₀ env (.Name x px) body Q E it s₂) E s := by
  have hl : s.heap.IsList l vs.toArray := hl₀.at fun o e => F.keep _ _ e
  have hlt : l < s.heap.objs.size := by obtain ⟨_, e, _⟩ := hl; exact Heap.lt_size e
  have hLs : env.locals < s.heap.objs.size := F.ns.lt
  have hlL : l ≠ env.locals := by
    obtain ⟨o, e, _⟩ := hl₀
    exact Nat.ne_of_lt (Nat.lt_of_lt_of_le (Heap.lt_size e) F.above)
  refine wpAny_pyIter_list hl ?_
  have hlen : vs.toArray.size = vs.length := by simp
  refine turns_J (tk0 := s.toks) (ws := [(s.heap.objs.size, "list_iterator")]) (keep := []) (KTurns.ofWalks (Walks.list hh s.heap.objs.size l (Nat.ne_of_lt hlt) vs.toArray) fun i v s Q E st q => wpAny_pure q)
    ?_ ?_ ?_ ?_ ?_ ⟨⟨_, Heap.get?_push_size _ rfl, rfl, rfl⟩, hl.push _⟩ (F.push _) (fun p hp => ⟨Heap.get?_push_of_some _ (N p hp).1, (N p hp).2⟩) (J s.heap.objs.size) (h0 _ fun p hp => Heap.lt_size (N p hp).1) (fun i m₁ n₁ hj => ⟨fun p hp hq => hJ _ _ _ _ hj p hp (by simpa using hq), fun p hp => nomatch hp⟩) ?_ ?_
  · rintro i h ⟨⟨it, h1, h2, h3⟩, _⟩
    exact ⟨[(s.heap.objs.size, it)], ⟨⟨rfl, h2⟩, trivial⟩, fun p hp => by rw [List.mem_singleton.mp hp]; exact h1⟩
  · intro b hb
    have e : b = s.heap.objs.size := by simpa using hb
    subst e
    exact ⟨by simp, next_is_new F⟩
  · intro b hb; simpa using hb
  · intro b hb
    rcases List.mem_cons.mp hb with e | hb
    · exact .inl (by simp [e])
    · rw [List.mem_singleton.mp hb]
      obtain ⟨o, e, _⟩ := hl₀
      exact .inr (.inr ⟨o, e⟩)
  · intro hm
    rcases List.mem_cons.mp hm with e | hm
    · exact Nat.ne_of_lt hLs e
    · exact hlL (List.mem_singleton.mp hm).symm
  · intro i v m₁ n₁ h tk hi hP hj F₁
    exact fun it hit => fun N₁ => turn _ i v m₁ n₁ h tk it (by have : vs.toArray[i]? = some v := hP; simpa using this) hj hit F₁ N₁
  · intro m₁ n₁ h tk hj F₁ N₁
    rw [hlen] at hj
    exact done _ m₁ n₁ h tk hj F₁ N₁

abbrev wyMap (m₀ : Str → Option Value) (W : Addr) (u : Option Value) : Str → Option Value := fun y => if y = Str.ofString "ways" then some (.ref W) else if y = Str.ofString "coin" then u else m₀ y
theorem wyMap_eq {m₀ m : Str → Option Value} {W : Addr} (a : m (Str.ofString "ways") = some (.ref W)) (h : ∀ y, y ≠ Str.ofString "ways" → y ≠ Str.ofString "coin" → m y = m₀ y) : m = wyMap m₀ W (m (Str.ofString "coin")) := by
  funext y
  by_cases c1 : y = Str.ofString "ways"
  · subst c1; simp [wyMap, a]
  · by_cases c2 : y = Str.ofString "coin"
    · subst c2; simp [wyMap, c1]
    · simp [wyMap, c1, c2, h y c1 c2]
def WyEnd (h₀ : Heap) (L I : Addr) (it : Obj) (m₀ : Str → Option Value) (ws : List Int) (s : Shared) (f : Flow) (s₂ : Shared) : Prop :=
  f = .next ∧ ∃ h' tk' m' W lv ep, s₂ = { s with heap := h', toks := tk' } ∧ Fr h₀ L h' m' ∧ News h₀ L h' [(I, it), (W, listOf (List.toArray lv) ep)] ∧ IntsAre lv ws ∧ @Ne Nat W I ∧ m' (Str.ofString "ways") = some (.ref W) ∧ ∀ y, y ≠ Str.ofString "ways" → y ≠ Str.ofString "coin" → m' y = m₀ y
theorem wy_loop {x : Str} {px : Pos} {l W0 : Addr} {vs : List Value} {cs : List Int} {t1 : Tok} {e0 : Nat} (hh : A.handled = none) (F : Fr h₀ env.locals s.heap m₀) (N : News h₀ env.locals s.heap news) (hl₀ : h₀.IsList l vs.toArray) (hi : IntsAre vs cs)
    (hm : (W0, listOf #[.int 1 t1] e0) ∈ news) (hm0 : m₀ (Str.ofString "ways") = some (.ref W0))
    (turn : ∀ I i c t W lv ep u it h tk, i < cs.length → cs[i]? = some c → IntsAre lv (waysOf (cs.take i)) → it.cls = .type "list_iterator" → @Ne Nat W I → Fr h₀ env.locals h (wyMap m₀ W u) → News h₀ env.locals h [(I, it), (W, listOf (List.toArray lv) ep)] →
      wpAny (model prog w) A (assign (.Name x px) env (.int c t)) (fun _ s₃ => wpAny (model prog w) A (execs body env) (WyEnd h₀ env.locals I it m₀ (wstep (waysOf (cs.take i)) c) s) E s₃) E { s with heap := h, toks := tk })
    (done : ∀ W lv ep u h tk, IntsAre lv (waysOf cs) → Fr h₀ env.locals h (wyMap m₀ W u) → News h₀ env.locals h [(W, listOf (List.toArray lv) ep)] → Q .next { s with heap := h, toks := tk }) :
    wpAny (model prog w) A (pyIter (.ref l)) (fun it s₂ => TurnsAt prog w A h₀ env (.Name x px) body Q E it s₂) E s := by
  refine lst_turns hh F (fun p hp => N p (by rw [List.mem_singleton.mp hp]; exact hm) : News h₀ env.locals s.heap [(W0, listOf #[.int 1 t1] e0)]) hl₀
    (fun I i m n => ∃ W lv ep, n = [(W, listOf (List.toArray lv) ep)] ∧ IntsAre lv (waysOf (cs.take i)) ∧ @Ne Nat W I ∧ m (Str.ofString "ways") = some (.ref W) ∧ ∀ y, y ≠ Str.ofString "ways" → y ≠ Str.ofString "coin" → m y = m₀ y)
    (fun I hI => ⟨W0, [.int 1 t1], e0, rfl, .cons 1 t1 .nil, Nat.ne_of_lt (hI _ (.head _)), hm0, fun _ _ _ => rfl⟩) ?_ ?_ ?_
  · rintro I i m n ⟨W, lv, ep, rfl, _, hne, _⟩ p hp
    rw [List.mem_singleton.mp hp]; exact hne
  · rintro I i v m₁ n₁ h tk it hv ⟨W, lv, ep, rfl, a1, a2, a3, a4⟩ hcls F₁ N₁
    obtain ⟨c, t, rfl, hc⟩ := hi.at _ _ hv
    rw [wyMap_eq a3 a4] at F₁
    refine wpAny_mono (turn I i c t W lv ep _ it h tk (List.getElem?_eq_some_iff.mp hc).1 hc a1 hcls a2 F₁ N₁) (fun _ s₂ h₂ => wpAny_mono h₂ (fun f s₃ q => ?_) fun _ _ e => e) fun _ _ e => e
    obtain ⟨rfl, h', tk', m', W', lv', ep', rfl, b1, b2, b3, b4, b5, b6⟩ := q
    exact ⟨h', tk', m', _, rfl, b1, b2, W', lv', ep', rfl, by rw [waysOf_snoc hc]; exact b3, b4, b5, b6⟩
  · rintro I m₁ n₁ h tk ⟨W, lv, ep, rfl, a1, a2, a3, a4⟩ F₁ N₁
    rw [wyMap_eq a3 a4] at F₁
    rw [hi.length, List.take_length] at a1
    exact done W lv ep _ h tk a1 F₁ N₁
theorem g_addl {L : Addr} {m : Str → Option Value} {l b : Addr} {vs ws : List Value} {ns ms : List Int} {k1 k2 : Nat} {Q : Value → Shared → Prop} (F : Fr h₀ L s.heap m) (N : News h₀ L s.heap news) (hm1 : (l, listOf (List.toArray vs) k1) ∈ news) (hm2 : (b, listOf (List.toArray ws) k2) ∈ news) (I1 : IntsAre vs ns) (I2 : IntsAre ws ms)
    (h0 : Owe (ns.length + ms.length ≤ 1000000))
    (h : ∀ l' h' vs', IntsAre vs' (ns ++ ms) → Fr h₀ L h' m → News h₀ L h' ((l', listOf (List.toArray vs') 0) :: news) → (∀ p ∈ news, p.1 < l') → Q (.ref l') { s with heap := h' }) :
    wpAny (model prog w) A (binaryOp .Add (.ref l) (.ref b)) Q E s :=
  add_lists_ints (hsz := by rw [sizeLine_eq]; have := h0.out; lia) F N ⟨_, (N _ hm1).1, rfl, _, rfl⟩ ⟨_, (N _ hm2).1, rfl, _, rfl⟩ I1 I2 fun h' F' N' I' => h _ h' _ I' F' N' fun p hp => Heap.lt_size (N p hp).1
end
def WaysPost (cs : List Int) (g : Heap) (r : Value) (h' : Heap) : Prop := ∃ T lv ep, r = .ref T ∧ g.get? T = none ∧ h'.get? T = some (listOf (List.toArray lv) ep) ∧ IntsAre lv (waysOf cs)
theorem ways_post {g h' : Heap} {L T : Addr} {lv : List Value} {cs : List Int} {ep : Nat} {nw : List (Addr × Obj)} (N : News g L h' nw) (hm : (T, listOf (List.toArray lv) ep) ∈ nw) (hI : IntsAre lv (waysOf cs)) : WaysPost cs g (.ref T) h' := ⟨T, lv, ep, rfl, (N _ hm).2.2, (N _ hm).1, hI⟩
theorem ways_c {cs : List Int} {i : Nat} {c : Int} (hok : WaysOk cs) (h : cs[i]? = some c) : 0 ≤ c ∧ c ≤ 8 := by have := hok.2 c (List.mem_of_getElem? h); lia
theorem wy_end {h₀ h' : Heap} {L I D : Addr} {it : Obj} {m₀ m' : Str → Option Value} {ws : List Int} {c : Int} {s : Shared} {tk' : Nat} {ys : List Value} {nw : List (Addr × Obj)} (F : Fr h₀ L h' m') (N : News h₀ L h' ((D, LCg.lst ys) :: nw)) (hI : IntsAre ys (zsum (ws ++ List.replicate c.toNat 0) (List.replicate c.toNat 0 ++ ws)))
    (hm : (I, it) ∈ nw) (hne : @Ne Nat I D) (hmw : m' (Str.ofString "ways") = some (.ref D)) (hy : ∀ y, y ≠ Str.ofString "ways" → y ≠ Str.ofString "coin" → m' y = m₀ y) : WyEnd h₀ L I it m₀ (wstep ws c) s .next { s with heap := h', toks := tk' } := by
  refine ⟨rfl, h', tk', m', D, ys, ys.length, rfl, F, fun p hp => ?_, hI, fun q => hne q.symm, hmw, hy⟩
  rcases List.mem_cons.mp hp with rfl | hp
  · exact N _ (.tail _ hm)
  · rw [List.mem_singleton.mp hp]; exact N _ (.head _)
theorem ways_oa {cs : List Int} {i : Nat} {c : Int} (hok : WaysOk cs) (h : cs[i]? = some c) : 0 ≤ c ∧ c ≤ 1000000 := by have := ways_c hok h; lia
theorem ways_ob {cs : List Int} {i : Nat} {c : Int} (hok : WaysOk cs) (h : cs[i]? = some c) : (waysOf (cs.take i)).length + (List.replicate c.toNat (0 : Int)).length ≤ 1000000 := by have := ways_c hok h; have := waysOf_len hok i; simp only [List.length_replicate]; lia
theorem ways_oc {cs : List Int} {i : Nat} {c : Int} (hok : WaysOk cs) (h : cs[i]? = some c) : (List.replicate c.toNat (0 : Int)).length + (waysOf (cs.take i)).length ≤ 1000000 := by have := ways_ob hok h; lia
theorem ways_od {cs : List Int} {i : Nat} {c : Int} (hok : WaysOk cs) (h : cs[i]? = some c) : (waysOf (cs.take i) ++ List.replicate c.toNat (0 : Int)).length ≤ 1000000 := by have := ways_ob hok h; rw [List.length_append]; lia
end Mine
end

section
open PySem PySem.W PyProof.Rows PySem.Calls
set_option Elab.async false
set_option maxRecDepth 100000
set_option maxHeartbeats 8000000
namespace Mine
section
variable {w : World} {p : Program} {loose : List Str} {mean : ExcName → Option Value} {mg mb : Str → Option Value}
theorem fillWy : ∀ h : Heap, (Mine.hd.heap_39 w.params).In h → PySem.Challenge.rw_xg0080_01 = PySem.Challenge.rw_xg0080_01 := by k_fill; intro _ _; rfl
theorem wy_con (l : Addr) (vs : List Value) (cs : List Int) (hi : IntsAre vs cs) (hok : WaysOk cs) : Con w p loose mean mg mb 170 [.ref l] 10 80 [] (fun h => h.IsList l vs.toArray) (WaysPost cs) := by
  refine' con_of0 ?k6 ?k7 ?kd ?k9 ?kB ?c5 ?c2 ?c3 ?c4 ?_
  case k6 => k_is
  case k7 => k_is
  case kd => decide
  case k9 => exact rfl
  case kB => exact locs rfl
  case c5 => decide
  case c2 => exact rfl
  case c3 => exact rfl
  case c4 => exact rfl
  intro dp un gd outer A₀ base g L' h₁ s Q E B' F' N' X' T' hdp hun hl hret
  have hl2 : g.IsList l vs.toArray := hl
  clear hl
  (try k_fold)
  repeat' (
    first
    | (k_unfold; (try dsimp only)) | (k_end; wrow_close)
    | ((with_reducible show wpAny _ _ (binaryOp Operator.Add (Value.ref _) (Value.ref _)) _ _ _); (k_here; k_dflt (refine' g_addl ?k1 ?k2 ?k3 ?k4 ?k5 ?k6 ?_ ?_; (case k1 => k_asm); (case k2 => k_asm); (case k3 => k_mem); (case k4 => k_mem); (case k5 => assumption); (case k6 => assumption)); rotate_left; intro l' h' vs' hI' F' N' l1; (try k_lt l1)))
    | ((with_reducible show wpAny _ _ (call (Value.type "zip") _ _) _ _ _); (k_here; k_dflt (refine' zip_src ?hh ?wF ?wN ?k1 ?k2 ?k3 ?k4 ?_ ?_; (case hh => exact rfl); (case wF => k_asm); (case wN => k_asm); (case k1 => k_mem); (case k2 => k_mem); (case k3 => assumption); (case k4 => assumption)); rotate_left; (intro D' h' tk' ys' hI' F' N' l1; (try (have l0 := l1; replace l1 := allNe_of l1; simp only [AllNe, and_true] at l1)); (try dsimp only); (try k_fold))))
    | ((with_reducible show wpAny _ _ (exec _ _) _ _ _); (k_here; k_dflt (refine Assign_Z (F₀ := by k_asm) (by rfl) (by with_unfolding_all rfl) (by with_unfolding_all rfl) (by decide) (by rfl) (by decide) (by rfl) (by rfl) (by decide) (by decide) (by decide) (by rfl) (by rfl) ?_)))
    | ((with_reducible show wpAny _ _ (pyIter (Value.ref _)) _ _ _); (k_here; (with_reducible rename Fr _ _ _ _ => wF); (with_reducible rename News _ _ _ _ => wN); k_dflt (refine' wy_loop ?hh ?wF ?wN ?k1 ?k2 ?k5 ?k6 ?_ ?_; (case hh => exact rfl); (case wF => exact wF); (case wN => exact wN); (case k1 => assumption); (case k2 => assumption); (case k5 => k_mem); (case k6 => exact rfl)); (intro I' i' c' t' W' lv' ep' u' it' h' tk' e1' e2' e3' e4' e5' F' N'); rotate_left; (intro W' lv' ep' u' h' tk' e1' F' N'; (try dsimp only); (try k_fold))))
    | ((with_reducible show wpAny _ _ (exec (Stmt.For _ _ _ _ _) _) _ _ _); (k_here; k_dflt (refine For_turns (by k_asm) ?_)))
    | ((with_reducible show wpAny _ _ (binaryOp Operator.Mult (Value.ref _) (Value.int _ _)) _ _ _); (k_here; k_dflt (refine' g_rep1 ?k1 ?k2 ?k3 ?_ ?_; (case k1 => k_asm); (case k2 => k_asm); (case k3 => k_mem)); rotate_left; intro l' vs' h' hI' F' N' l1; (try k_lt l1)))
    | walk1 | (dsimp only; walk1) | (leave1; walk_say "STEP leave1"; try dsimp only) | fail "no step")
  all_goals (first
    | exact ⟨ways_oa hok (by assumption)⟩
    | exact ⟨ways_ob hok (by assumption)⟩
    | exact ⟨ways_oc hok (by assumption)⟩
    | exact ⟨ways_od hok (by assumption)⟩
    | exact hret _ _ _ (Fr.keep (by assumption)) (ways_post (by assumption) (by k_mem) (by assumption))
    | (refine' wy_end (by assumption) (by assumption) (by assumption) ?a1 ?a2 ?a3 ?a4
       case a1 => k_mem
       case a2 => omega
       case a3 => exact rfl
       case a4 => intro y h1 h2; simp +zetaDelta [wyMap, h1, h2])
    | skip)
end
end Mine
end

section
open PySem PySem.W PyProof.Rows PySem.Calls
set_option Elab.async false
set_option maxRecDepth 100000
set_option linter.unusedVariables false
namespace Mine
def luRun : Nat → Int → List Int → Int
  | _, p, [] => p + 1
  | i, p, o :: r => if o > 0 ∧ (i : Int) > p + 1 then p + 1 else luRun (i + 1) (p + i * o) r
def LuOk (cs : List Int) : Prop := cs.length ≤ 100 ∧ ∀ o ∈ cs, 0 ≤ o ∧ o ≤ 100
def LuInv (cs : List Int) (i : Nat) (p : Int) : Prop := luRun i p (cs.drop i) = luRun 0 0 cs
theorem lu_zero {cs : List Int} : LuInv cs 0 0 := by simp [LuInv]
theorem lu_drop {cs : List Int} {i : Nat} {o : Int} (h : cs[i]? = some o) : cs.drop i = o :: cs.drop (i + 1) := by
  obtain ⟨h1, h2⟩ := List.getElem?_eq_some_iff.mp h
  rw [List.drop_eq_getElem_cons h1, h2]
theorem lu_ret {cs : List Int} {i : Nat} {p o : Int} (h : LuInv cs i p) (e : cs[i]? = some o) (h1 : o > 0) (h2 : (i : Int) > p + 1) : p + 1 = luRun 0 0 cs := by
  rw [← h, lu_drop e, luRun, if_pos ⟨h1, h2⟩]
theorem lu_next1 {cs : List Int} {i : Nat} {p o : Int} (h : LuInv cs i p) (e : cs[i]? = some o) (h1 : ¬ o > 0) : LuInv cs (i + 1) (p + i * o) := by
  unfold LuInv at *
  rw [← h, lu_drop e, luRun, if_neg (fun q => h1 q.1)]
theorem lu_next2 {cs : List Int} {i : Nat} {p o : Int} (h : LuInv cs i p) (e : cs[i]? = some o) (h1 : ¬ (i : Int) > p + 1) : LuInv cs (i + 1) (p + i * o) := by
  unfold LuInv at *
  rw [← h, lu_drop e, luRun, if_neg (fun q => h1 q.2)]
theorem lu_done {cs : List Int} {p : Int} (h : LuInv cs cs.length p) : p + 1 = luRun 0 0 cs := by
  unfold LuInv at h
  rw [List.drop_length] at h
  exact h
section
variable {prog : Program} {w : World} {A : Around} {E : Value → Shared → Prop} {s : Shared} {env : Env} {h₀ : Heap} {body : List Stmt} {Q : Flow → Shared → Prop} {m₀ : Str → Option Value} {news : List (Addr × Obj)}
theorem entup_turns {elts : List Expr} {k : Nat} {pos : Pos} {l : Addr} {vs : List Value} (hh : A.handled = none) (F : Fr h₀ env.locals s.heap m₀) (N : News h₀ env.locals s.heap news)
    (hl₀ : h₀.IsTuple l vs.toArray)
    (J : Nat → (Str → Option Value) → List (Addr × Obj) → Prop) (h0 : J 0 m₀ news)
    (hJ : ∀ i m n₁, J i m n₁ → (∀ p ∈ n₁, ∃ o, (p.1, o) ∈ news))
    (turn : ∀ I i v t T m₁ n₁ h tk o1 o2, (∀ p ∈ news, p.1 < I) → vs[i]? = some v → J i m₁ n₁ → IsTup h T #[.int (i : Int) t, v] → o1.cls = .type "enumerate" → o2.cls = .type "tuple_iterator" → Fr h₀ env.locals h m₁ → News h₀ env.locals h ((I + 1, o1) :: (I, o2) :: n₁) →
      wpAny (model prog w) A (assign (.Tuple elts k pos) env (.ref T)) (fun _ s₃ => wpAny (model prog w) A (execs body env) (TEnd h₀ env.locals [(I + 1, o1), (I, o2)] (J (i + 1)) { s with heap := h, toks := tk } Q) E s₃) E { s with heap := h, toks := tk })
    (done : ∀ m₁ n₁ h tk, J vs.length m₁ n₁ → Fr h₀ env.locals h m₁ → News h₀ env.locals h n₁ → Q .next { s with heap := h, toks := tk }) :
    wpAny (model prog w) A (call (.type "enumerate") [.ref l]) (fun xv s₁ => wpAny (model prog w) A (pyIter xv) (fun it s₂ => TurnsAt prog w A h₀ env (.Tuple elts k pos) body Q E it s₂) E s₁) E s := by
  have hl : s.heap.IsTuple l vs.toArray := hl₀.at fun o e => F.keep _ _ e
  have hlt : l < s.heap.objs.size := by obtain ⟨_, e, _⟩ := hl; exact Heap.lt_size e
  have hlL : l ≠ env.locals := by
    obtain ⟨o, e, _⟩ := hl₀
    exact Nat.ne_of_lt (Nat.lt_of_lt_of_le (Heap.lt_size e) F.above)
  have hLs : env.locals < s.heap.objs.size := F.ns.lt
  have hoff : ∀ p ∈ news, p.1 < s.heap.objs.size := fun p hp => Heap.lt_size (N p hp).1
  refine call_enumerate_tup hl fun h' hE hI hsz hk => ?_
  refine wpAny_pyIter_enum hE ?_
  have hlen : vs.toArray.size = vs.length := by simp
  refine turns_J (tk0 := s.toks) (ws := [(s.heap.objs.size + 1, "enumerate"), (s.heap.objs.size, "tuple_iterator")]) (keep := [])
    (KTurns.ofWalksU (WalksT.enumerateD (draws_tup (A := A.in1) hh s.heap.objs.size l (Nat.ne_of_lt hlt) vs.toArray) (s.heap.objs.size + 1) (Nat.succ_ne_self _) (fun hm => by
      rcases List.mem_cons.mp hm with e | hm
      · exact Nat.succ_ne_self _ e
      · exact ktu_ne 1 hlt (List.mem_singleton.mp hm).symm) (List.mem_cons_self ..)).toU) ?_ ?_ ?_ ?_ ?_ ?_ (F.keeps hk) (N.grown hk) J h0 (fun i m₁ n₁ hj => ⟨fun p hp hI' => ?_, fun p hp => nomatch hp⟩) ?_ ?_
  · rintro i h ⟨⟨old, he⟩, ⟨oi, hoi, hic, _⟩, _⟩
    have he' : ∃ oe : Obj, h.get? (s.heap.objs.size + 1) = some oe ∧ oe.cls = .type "enumerate" := ⟨_, he, rfl⟩
    obtain ⟨oe, h1, h2⟩ := he'
    refine ⟨[(s.heap.objs.size + 1, oe), (s.heap.objs.size, oi)], ⟨⟨rfl, h2⟩, ⟨rfl, hic⟩, trivial⟩, fun p hp => ?_⟩
    rcases List.mem_cons.mp hp with rfl | hp
    · exact h1
    · rw [List.mem_singleton.mp hp]; exact hoi
  · intro b hb
    have hb' : b = s.heap.objs.size + 1 ∨ b = s.heap.objs.size := by simpa using hb
    rcases hb' with rfl | rfl
    · exact ⟨by simp, ktu_new F (Nat.le_add_right _ _)⟩
    · exact ⟨by simp, ktu_new F (Nat.le_refl _)⟩
  · intro b hb
    simpa using hb
  · intro b hb
    have hb' : b = s.heap.objs.size + 1 ∨ b = s.heap.objs.size ∨ b = l := by simpa using hb
    rcases hb' with rfl | rfl | rfl
    · exact .inl (by simp)
    · exact .inl (by simp)
    · obtain ⟨o, e, _⟩ := hl₀
      exact .inr (.inr ⟨o, e⟩)
  · intro hI'
    have hb' : env.locals = s.heap.objs.size + 1 ∨ env.locals = s.heap.objs.size ∨ env.locals = l := by simpa using hI'
    rcases hb' with e | e | e
    · exact ktu_ne 1 hLs e
    · exact Nat.ne_of_lt hLs e
    · exact hlL e.symm
  · exact ⟨⟨.none, hE⟩, hI, hl.at fun o e => hk l o e⟩
  · have hb' : p.1 = s.heap.objs.size + 1 ∨ p.1 = s.heap.objs.size := by simpa using hI'
    obtain ⟨o, ho⟩ := hJ _ _ _ hj p hp
    have hlp : p.1 < s.heap.objs.size := hoff (p.1, o) ho
    rcases hb' with e | e
    · exact ktu_ne 1 hlp e
    · exact Nat.ne_of_lt hlp e
  · rintro i v m₁ n₁ h tk hi ⟨T, vals, rfl, ⟨t, x, hx, rfl⟩, hT⟩ hj F₁
    refine fun o1 c1 o2 c2 => fun N₁ => ?_
    exact turn s.heap.objs.size i x t T m₁ n₁ h tk o1 o2 hoff (by simpa using hx) hj hT c1 c2 F₁ N₁
  · intro m₁ n₁ h tk hj F₁ N₁
    rw [hlen] at hj
    exact done m₁ n₁ h tk hj F₁ N₁
abbrev luMap (m₀ : Str → Option Value) (p : Int) (tp : Tok) (u1 u2 : Option Value) : Str → Option Value :=
  fun y => if y = Str.ofString "paid" then some (.int p tp) else if y = Str.ofString "coin" then u1 else if y = Str.ofString "often" then u2 else m₀ y
theorem luMap_eq {m₀ m : Str → Option Value} {p : Int} {tp : Tok} (a : m (Str.ofString "paid") = some (.int p tp)) (h : ∀ y, y ≠ Str.ofString "paid" → y ≠ Str.ofString "coin" → y ≠ Str.ofString "often" → m y = m₀ y) :
    m = luMap m₀ p tp (m (Str.ofString "coin")) (m (Str.ofString "often")) := by
  funext y
  by_cases c1 : y = Str.ofString "paid"
  · subst c1; simp [luMap, a]
  · by_cases c2 : y = Str.ofString "coin"
    · subst c2; simp [luMap, c1]
    · by_cases c3 : y = Str.ofString "often"
      · subst c3; simp [luMap, c1, c2]
      · simp [luMap, c1, c2, c3, h y c1 c2 c3]
def LuEnd (h₀ : Heap) (L : Addr) (I : Addr) (o1 o2 : Obj) (m₀ : Str → Option Value) (Inv : Int → Prop) (s : Shared) (Q : Flow → Shared → Prop) (f : Flow) (s₂ : Shared) : Prop :=
  match f with
  | .ret v => Q (.ret v) s₂
  | .next => ∃ h' tk' m' p tp, s₂ = { s with heap := h', toks := tk' } ∧ Fr h₀ L h' m' ∧ News h₀ L h' [(I + 1, o1), (I, o2)] ∧ Inv p ∧ m' (Str.ofString "paid") = some (.int p tp) ∧ ∀ y, y ≠ Str.ofString "paid" → y ≠ Str.ofString "coin" → y ≠ Str.ofString "often" → m' y = m₀ y
  | _ => False
theorem lu_loop {elts : List Expr} {k : Nat} {pos : Pos} {l : Addr} {vs : List Value} {cs : List Int} {t0 : Tok} (hh : A.handled = none) (F : Fr h₀ env.locals s.heap m₀) (hl₀ : IsTup h₀ l vs.toArray) (hi : IntsAre vs cs) (hm0 : m₀ (Str.ofString "paid") = some (.int 0 t0))
    (turn : ∀ I i c t tc T p tp u1 u2 h tk o1 o2, i < cs.length → cs[i]? = some c → LuInv cs i p → IsTup h T #[.int (i : Int) t, .int c tc] → o1.cls = .type "enumerate" → o2.cls = .type "tuple_iterator" → Fr h₀ env.locals h (luMap m₀ p tp u1 u2) → News h₀ env.locals h [(I + 1, o1), (I, o2)] →
      wpAny (model prog w) A (assign (.Tuple elts k pos) env (.ref T)) (fun _ s₃ => wpAny (model prog w) A (execs body env) (LuEnd h₀ env.locals I o1 o2 m₀ (LuInv cs (i + 1)) s Q) E s₃) E { s with heap := h, toks := tk })
    (done : ∀ p tp u1 u2 h tk, LuInv cs cs.length p → Fr h₀ env.locals h (luMap m₀ p tp u1 u2) → News h₀ env.locals h [] → Q .next { s with heap := h, toks := tk }) :
    wpAny (model prog w) A (call (.type "enumerate") [.ref l]) (fun xv s₁ => wpAny (model prog w) A (pyIter xv) (fun it s₂ => TurnsAt prog w A h₀ env (.Tuple elts k pos) body Q E it s₂) E s₁) E s := by
  refine entup_turns hh F (fun p hp => nomatch hp : News h₀ env.locals s.heap []) hl₀ (fun i m n => n = [] ∧ ∃ p tp, m (Str.ofString "paid") = some (.int p tp) ∧ LuInv cs i p ∧ ∀ y, y ≠ Str.ofString "paid" → y ≠ Str.ofString "coin" → y ≠ Str.ofString "often" → m y = m₀ y)
    ⟨rfl, 0, t0, hm0, lu_zero, fun _ _ _ _ => rfl⟩ ?_ ?_ ?_
  · rintro i m n ⟨rfl, _⟩ p hp; cases hp
  · rintro I i v t T m₁ n₁ h tk o1 o2 _ hv ⟨rfl, p, tp, a1, a2, a3⟩ hT c1 c2 F₁ N₁
    obtain ⟨c, tc, rfl, hc⟩ := hi.at _ _ hv
    rw [luMap_eq a1 a3] at F₁
    refine wpAny_mono (turn I i c t tc T p tp _ _ h tk o1 o2 (List.getElem?_eq_some_iff.mp hc).1 hc a2 hT c1 c2 F₁ N₁) (fun _ s₂ h₂ => wpAny_mono h₂ (fun f s₃ q => ?_) fun _ _ e => e) fun _ _ e => e
    cases f with
    | ret v => exact q
    | next =>
      obtain ⟨h', tk', m', p', tp', rfl, b1, b2, b3, b4, b5⟩ := q
      exact ⟨h', tk', m', [], rfl, b1, b2, rfl, p', tp', b4, b3, b5⟩
    | brk => exact False.elim q
    | cont => exact False.elim q
  · rintro m₁ n₁ h tk ⟨rfl, p, tp, a1, a2, a3⟩ F₁ N₁
    rw [luMap_eq a1 a3] at F₁
    rw [hi.length] at a2
    exact done p tp _ _ h tk a2 F₁ N₁
end
def LuPost (cs : List Int) (g : Heap) (r : Value) (h' : Heap) : Prop := ∃ t, r = .int (luRun 0 0 cs) t
theorem lu_post {cs : List Int} {g h' : Heap} {p : Int} {t : Tok} (e : p + 1 = luRun 0 0 cs) : LuPost cs g (.int (p + 1) t) h' := ⟨t, by rw [e]⟩
theorem lu_mul {cs : List Int} {i : Nat} {c : Int} (hok : LuOk cs) (h : i < cs.length) : IntMulOk (i : Int) c := by
  refine IntMulOk.of_left (intBits_le_64 (by lia) ?_)
  have := hok.1
  lia
end Mine
end

section
open PySem PySem.W PyProof.Rows PySem.Calls
set_option Elab.async false
set_option maxRecDepth 100000
set_option maxHeartbeats 8000000
namespace Mine
section
variable {w : World} {p : Program} {loose : List Str} {mean : ExcName → Option Value} {mg mb : Str → Option Value}
theorem fillLu : ∀ h : Heap, (Mine.hd.heap_39 w.params).In h → PySem.Challenge.rw_xg0080_01 = PySem.Challenge.rw_xg0080_01 := by k_fill; intro _ _; rfl
theorem lu_con (l : Addr) (vs : List Value) (cs : List Int) (hi : IntsAre vs cs) (hok : LuOk cs) : Con w p loose mean mg mb 177 [.ref l] 10 80 [] (fun h => IsTup h l vs.toArray) (LuPost cs) := by
  refine' con_of0 ?k6 ?k7 ?kd ?k9 ?kB ?c5 ?c2 ?c3 ?c4 ?_
  case k6 => k_is
  case k7 => k_is
  case kd => decide
  case k9 => exact rfl
  case kB => exact locs rfl
  case c5 => decide
  case c2 => exact rfl
  case c3 => exact rfl
  case c4 => exact rfl
  intro dp un gd outer A₀ base g L' h₁ s Q E B' F' N' X' T' hdp hun hl hret
  have hl2 : IsTup g l vs.toArray := hl
  clear hl
  (try k_fold)
  repeat' (
    first
    | (k_unfold; (try dsimp only)) | (k_end; wrow_close)
    | ((with_reducible show wpAny _ _ (call (Value.type "enumerate") _ _) _ _ _); (k_here; (with_reducible rename Fr _ _ _ _ => wF); k_dflt (refine' lu_loop ?hh ?wF ?k5 ?k6 ?k1 ?_ ?_; (case hh => exact rfl); (case wF => exact wF); (case k5 => assumption); (case k6 => assumption); (case k1 => exact rfl)); (intro I' i' c' t' tc' T' p' tp' u1' u2' h' tk' o1' o2' e1' e2' e3' e4' e5' e6' F' N'); rotate_left; (intro p' tp' u1' u2' h' tk' e1' F' N'; (try dsimp only); (try k_fold))))
    | ((with_reducible show wpAny _ _ (exec (Stmt.For _ _ _ _ _) _) _ _ _); (k_here; k_dflt (refine For_turns (by k_asm) ?_)))
    | walk1 | (dsimp only; walk1) | (leave1; walk_say "STEP leave1"; try dsimp only) | fail "no step")
  all_goals (first
    | exact ⟨lu_mul hok (by assumption)⟩
    | exact hret _ _ _ (Fr.keep (by assumption)) (lu_post (lu_done (by assumption)))
    | exact hret _ _ _ (Fr.keep (by assumption)) (lu_post (lu_ret (by assumption) (by assumption) (by assumption) (by assumption)))
    | (refine' ⟨_, _, _, _, _, rfl, ?a1, ?a2, ?a3, ?a4, ?a6⟩
       case a1 => assumption
       case a4 => exact rfl
       case a2 => assumption
       case a3 => first | exact lu_next1 (by assumption) (by assumption) (by assumption) | exact lu_next2 (by assumption) (by assumption) (by assumption)
       case a6 => intro y h1 h2 h3; simp +zetaDelta [luMap, h1, h2, h3])
    | skip)
end
end Mine
end

section
open PySem PySem.W PyProof.Rows PySem.Calls
set_option Elab.async false
set_option maxRecDepth 100000
set_option linter.unusedVariables false
namespace Mine
theorem under_make (dp un : Nat) (gd : Option (List Code)) (cn : Str) (cs : Scope) (L a : Addr) (ccd : Value) (cl : List (Str × Addr)) (outer : List Env) (C : Addr) (rest : List Value) (kw : List (Str × Value)) :
    ∃ k, k ≤ 20 ∧ (ktrTop dp un gd cn cs L a ccd cl outer).under (.builtin "type.__call__" ⟨.ref C :: rest, kw⟩) = ktrTop (dp + 1) (un + k) gd cn cs L a ccd cl outer := by
  refine ⟨(Code.builtin "type.__call__" ⟨.ref C :: rest, kw⟩).cUnits, ?_, rfl⟩
  exact Nat.le_of_ble_eq_true rfl
section
variable {w : World} {p : Program} {loose : List Str} {mean : ExcName → Option Value} {mg mb : Str → Option Value}
/-- a class of the top's, called; its __init__ a def of the top's -/
theorem con_cls {C f : Addr} {vs : List Value} {d u : Nat} {Pre : Heap → Prop} {Post : Heap → Value → Heap → Prop}
    {name qual : Str} {params : Arguments} {body : List Stmt} {scope : Scope} {dV kV doc pm cdv ct oc : Value} {an od : Option Addr} {osl : Array (Option Value)} {binds : Addr → List (Str × Value)}
    (hm : makesIn (Mine.hd.heap_39 w.params) C = true) (hi : findIn (Mine.hd.heap_39 w.params) (.ref C) "__init__" = some (some (.ref f))) (hfn : isFn (Mine.hd.heap_39 w.params) (.ref f) = true)
    (ho : (Mine.hd.heap_39 w.params).lookup f = some ⟨oc, od, .func (fnOf name qual params body scope dV kV doc pm an cdv ct), osl⟩)
    (hcd : codeIn (Mine.hd.heap_39 w.params) cdv qual = true) (hd1 : 2 ≤ d)
    (hbind : ∀ x : Addr, bindArgs (fnOf name qual params body scope dV kV doc pm an cdv ct) ⟨.ref x :: vs, []⟩ = pure (binds x)) (hloc : ∀ x, ∀ y ∈ binds x, scope.names.lookup y.1 = some .local)
    (hcell : ∀ x ∈ scope.names, x.2 ≠ .cell) (hco : scope.isCoroutine = false) (hgen : scope.isGenerator = false) (hk : scope.kind = .function)
    (h : ∀ (dp un : Nat) (gd : Option (List Code)) (outer : List Env) (A₀ : Around) (base H g : Heap) (x dx L' : Addr) (h₁ : Heap) (s : Shared) (Q E : Value → Shared → Prop),
      (∀ b o, H.get? b = some o → g.get? b = some o) → H.get? x = none → H.get? dx = none → @LT.lt Nat _ dx x → @LT.lt Nat _ x L' → Below A₀ base outer g → Fr g L' h₁ (fun y => (binds x).reverse.lookup y) → News g L' h₁ [(x, instObj C dx), (dx, dictOf [] 0)] →
      (Mine.hd.heap_39 w.params).In g → Top p loose mean mg mb g → dp + d ≤ recursionLimit + 1 → un + u < cLine + 23 → Pre H →
      (∀ h' tk', (∀ b o, g.get? b = some o → h'.get? b = some o) → Post H (.ref x) h' → Q .none { s with heap := h', toks := tk' }) →
      wpAny (model PySem.Challenge.rw_xg0080_01.row.prog w) (ktrTop dp un gd qual scope L' f cdv [] outer) (execs body (envOf qual scope L' f cdv))
        (fun fl s' => Q (match fl with | .ret v => v | _ => .none) s')
        (fun e s' => wpAny (model PySem.Challenge.rw_xg0080_01.row.prog w) (ktrTop dp un gd qual scope L' f cdv [] outer) (leaving (envOf qual scope L' f cdv) e) (fun _ s'' => E e s'') (fun e' s'' => E e' s'') s')
        { s with heap := h₁, toks := s.toks + (binds x).length }) :
    Con w p loose mean mg mb C vs d u [] Pre Post := by
  intro dp un gd cn cs a ccd cl outer A₀ base h₀ L m s Q E B F X T hkk hdp hun hW hpre hret
  obtain ⟨hh, gs, dr, t, os⟩ := s
  refine wpAny_call ?_
  have X1 := X.keeps F.keep
  refine make_core (makes_of X1 hm) (looks_findIn X1 hi) (fun self => bind_fn X1 self (beq_iff_eq.mp hfn)) (.inl rfl) ?_
  obtain ⟨k, hk20, ek⟩ := under_make dp un gd cn cs L a ccd cl outer C vs []
  rw [ek]
  have kp : ∀ b o, hh.get? b = some o → ((hh.push emptyDict).push (instObj C hh.objs.size)).get? b = some o := fun b o e => Heap.get?_push_of_some _ (Heap.get?_push_of_some _ e)
  have F1 : Fr h₀ L ((hh.push emptyDict).push (instObj C hh.objs.size)) m := F.keeps kp
  have z1 : (hh.push emptyDict).objs.size = hh.objs.size + 1 := Heap.size_push ..
  have z2 : ((hh.push emptyDict).push (instObj C hh.objs.size)).objs.size = hh.objs.size + 2 := by rw [Heap.size_push, z1]
  have hx : ((hh.push emptyDict).push (instObj C hh.objs.size)).get? (hh.objs.size + 1) = some (instObj C hh.objs.size) := by rw [← z1]; exact Heap.get?_push_size _ rfl
  have hdx : ((hh.push emptyDict).push (instObj C hh.objs.size)).get? hh.objs.size = some (dictOf [] 0) := Heap.get?_push_of_some _ (Heap.get?_push_size _ rfl)
  have fresh : ∀ b, hh.objs.size ≤ b → hh.get? b = none := fun b hb => by
    cases e : hh.get? b with
    | none => rfl
    | some o' => exact absurd (Heap.lt_size e) (Nat.not_lt.mpr hb)
  have hLs : L < hh.objs.size := F.ns.lt
  have fW : ∀ b ∈ [hh.objs.size + 1, hh.objs.size], hh.get? b = none ∧ hh.objs.size ≤ b := by
    intro b hb
    rcases List.mem_cons.mp hb with rfl | hb
    · exact ⟨fresh _ (Nat.le_succ _), Nat.le_succ _⟩
    · rw [List.mem_singleton.mp hb]; exact ⟨fresh _ (Nat.le_refl _), Nat.le_refl _⟩
  refine call_W (s := { heap := (hh.push emptyDict).push (instObj C hh.objs.size), gens := gs, drawn := dr, toks := t, os := os }) (cl := []) [hh.objs.size + 1, hh.objs.size] B F1 (fun b hb => ⟨?_, ?_⟩) T.nolimit rfl rfl hkk ((X1.keeps kp) _ _ ho) rfl (codeRec_of (X1.keeps kp) hcd) (by show dp + 1 < recursionLimit; lia) (BindsTo.of_eq (hbind _)) (hloc _) (fun g L' h₁ eg eL st F' hk₁ B' => ?_) hcell hco hgen hk
  · cases e : h₀.get? b with
    | none => rfl
    | some o => have := F.keep b o e; rw [(fW b hb).1] at this; cases this
  · exact fun q => Nat.lt_irrefl _ (Nat.lt_of_lt_of_le hLs (q ▸ (fW b hb).2))
  · have gk : ∀ b o, hh.get? b = some o → g.get? b = some o := fun b o e => by
      rw [eg]
      refine hideAll_get _ (kp b o e) fun hm => ?_
      rw [(fW b hm).1] at e; cases e
    refine h (dp + 2) (un + k + 3) gd (envX cn cs L a ccd cl :: outer) _ base hh g (hh.objs.size + 1) hh.objs.size L' h₁ { heap := (hh.push emptyDict).push (instObj C hh.objs.size), gens := gs, drawn := dr, toks := t, os := os }
      (fun v s' => v = .none ∧ Q (.ref (hh.objs.size + 1)) s') (fun e s' => E e s') gk (fW _ (.head _)).1 (fW _ (.tail _ (.head _))).1 (Nat.lt_succ_self _) (by rw [eL]; show hh.objs.size + 1 < ((hh.push emptyDict).push (instObj C hh.objs.size)).objs.size; rw [z2]; exact Nat.lt_succ_self _)
      B' F' ?_ (X.keeps st) (T.keeps st) (by lia) (by lia) hpre ?_
    · intro q hq
      have hqW : q.1 ∈ [hh.objs.size + 1, hh.objs.size] := by
        rcases List.mem_cons.mp hq with rfl | hq
        · exact .head _
        · rw [List.mem_singleton.mp hq]; exact .tail _ (.head _)
      have hqe : ((hh.push emptyDict).push (instObj C hh.objs.size)).get? q.1 = some q.2 := by
        rcases List.mem_cons.mp hq with rfl | hq
        · exact hx
        · rw [List.mem_singleton.mp hq]; exact hdx
      exact ⟨hk₁ _ _ hqe, by rw [eL]; exact Nat.ne_of_lt (Heap.lt_size hqe), by rw [eg]; exact hideAll_none _ hqW⟩
    · intro h' tk' hk hp
      exact ⟨rfl, hret (.ref (hh.objs.size + 1)) h' tk' (fun b o _ e => hk b o (gk b o e)) hp⟩
end
end Mine
end

section
open PySem PySem.W PyProof.Rows PySem.Calls
set_option Elab.async false
set_option maxRecDepth 100000
set_option linter.unusedVariables false
namespace Mine
/-- what the loop over the indent's signs keeps: b, n, nt, count -/
structure WSt where
  b : Int
  n : Int
  nt : Int
  cnt : List Int
def wsGrow (b : Int) (cnt : List Int) : List Int := if b ≥ (cnt.length : Int) then cnt ++ List.replicate (b - cnt.length + 1).toNat 0 else cnt
def wsBump (b : Int) (cnt : List Int) : List Int := cnt.set b.toNat (cnt.getD b.toNat 0 + 1)
def wsTab (st : WSt) : WSt := ⟨0, st.n + 1, st.nt + 1, wsBump st.b (wsGrow st.b st.cnt)⟩
def wsSpace (st : WSt) : WSt := ⟨st.b + 1, st.n + 1, st.nt, st.cnt⟩
def wsRun : List Nat → WSt → WSt
  | [], st => st
  | c :: r, st => if c = 32 then wsRun r (wsSpace st) else if c = 9 then wsRun r (wsTab st) else st
def wsInit : WSt := ⟨0, 0, 0, []⟩
def wsFin (x : Str) : WSt := wsRun x.cps.toList wsInit
def WsOk (x : Str) : Prop := x.cps.size ≤ 1000 ∧ ∀ c ∈ x.cps.toList, c = 32 ∨ c = 9 ∨ c = 120
def WsInv (x : Str) (i : Nat) (st : WSt) : Prop := wsRun (x.cps.toList.drop i) st = wsFin x ∧ 0 ≤ st.b ∧ st.b ≤ i ∧ 0 ≤ st.nt ∧ st.nt ≤ i ∧ st.cnt.length ≤ i
theorem ws_zero {x : Str} : WsInv x 0 wsInit := by refine ⟨by simp [wsFin], ?_, ?_, ?_, ?_, ?_⟩ <;> simp [wsInit]
theorem ws_drop {x : Str} {i c : Nat} (h : x.cps[i]? = some c) : x.cps.toList.drop i = c :: x.cps.toList.drop (i + 1) := by
  have h' : x.cps.toList[i]? = some c := by simpa using h
  obtain ⟨h1, h2⟩ := List.getElem?_eq_some_iff.mp h'
  rw [List.drop_eq_getElem_cons h1, h2]
theorem wsBump_len (b : Int) (cnt : List Int) : (wsBump b cnt).length = cnt.length := by simp [wsBump]
theorem wsGrow_len (b : Int) (cnt : List Int) (h : 0 ≤ b) : (wsGrow b cnt).length = max cnt.length (b.toNat + 1) := by
  unfold wsGrow
  split
  · simp only [List.length_append, List.length_replicate]; lia
  · lia
theorem ws_space {x : Str} {i : Nat} {st : WSt} (h : WsInv x i st) (e : x.cps[i]? = some 32) : WsInv x (i + 1) ⟨st.b + 1, st.n + 1, st.nt, st.cnt⟩ := by
  obtain ⟨h1, h2, h3, h4, h5, h6⟩ := h
  refine ⟨?_, ?_, ?_, ?_, ?_, ?_⟩
  · rw [← h1, ws_drop e]; simp [wsRun, wsSpace]
  all_goals simp only; lia
theorem ws_tab {x : Str} {i : Nat} {st : WSt} (h : WsInv x i st) (e : x.cps[i]? = some 9) : WsInv x (i + 1) ⟨0, st.n + 1, st.nt + 1, wsBump st.b (wsGrow st.b st.cnt)⟩ := by
  obtain ⟨h1, h2, h3, h4, h5, h6⟩ := h
  refine ⟨?_, ?_, ?_, ?_, ?_, ?_⟩
  · rw [← h1, ws_drop e]; simp [wsRun, wsTab]
  · simp
  · simp only; lia
  · simp only; lia
  · simp only; lia
  · simp only [wsBump_len, wsGrow_len _ _ h2]; lia
theorem ws_stop {x : Str} {i : Nat} {st : WSt} (h : WsInv x i st) (e : x.cps[i]? = some 120) : st = wsFin x := by
  rw [← h.1, ws_drop e]; simp [wsRun]
theorem ws_done {x : Str} {st : WSt} (h : WsInv x x.cps.size st) : st = wsFin x := by
  rw [← h.1, List.drop_of_length_le (by simp)]; rfl
theorem ws_ascii {x : Str} (h : WsOk x) : x.cps.all (· < 128) = true := by
  rw [Array.all_eq_true']
  intro c hc
  have := h.2 c (Array.mem_toList_iff.mpr hc)
  simp; lia
section
variable {prog : Program} {w : World} {A : Around} {E : Value → Shared → Prop} {s : Shared} {env : Env} {h₀ : Heap} {body : List Stmt} {Q : Flow → Shared → Prop} {m₀ : Str → Option Value} {news : List (Addr × Obj)}
abbrev wsMap (m₀ : Str → Option Value) (C : Addr) (b n nt : Int) (tb tn tt : Tok) (u : Option Value) : Str → Option Value :=
  fun y => if y = Str.ofString "count" then some (.ref C) else if y = Str.ofString "b" then some (.int b tb) else if y = Str.ofString "n" then some (.int n tn) else if y = Str.ofString "nt" then some (.int nt tt) else if y = Str.ofString "ch" then u else m₀ y
structure WsSame (m m₀ : Str → Option Value) : Prop where
  out : ∀ y, y ≠ Str.ofString "count" → y ≠ Str.ofString "b" → y ≠ Str.ofString "n" → y ≠ Str.ofString "nt" → y ≠ Str.ofString "ch" → m y = m₀ y
structure WsVars (m : Str → Option Value) (C : Addr) (st : WSt) : Prop where
  c : m (Str.ofString "count") = some (.ref C)
  b : ∃ t, m (Str.ofString "b") = some (.int st.b t)
  n : ∃ t, m (Str.ofString "n") = some (.int st.n t)
  nt : ∃ t, m (Str.ofString "nt") = some (.int st.nt t)
theorem wsMap_eq {m₀ m : Str → Option Value} {C : Addr} {st : WSt} (v : WsVars m C st) (h : WsSame m m₀) : ∃ tb tn tt, m = wsMap m₀ C st.b st.n st.nt tb tn tt (m (Str.ofString "ch")) := by
  obtain ⟨c, ⟨tb, hb⟩, ⟨tn, hn⟩, ⟨tt, ht⟩⟩ := v
  refine ⟨tb, tn, tt, ?_⟩
  funext y
  by_cases c1 : y = Str.ofString "count"
  · subst c1; simp [wsMap, c]
  · by_cases c2 : y = Str.ofString "b"
    · subst c2; simp [wsMap, c1, hb]
    · by_cases c3 : y = Str.ofString "n"
      · subst c3; simp [wsMap, c1, c2, hn]
      · by_cases c4 : y = Str.ofString "nt"
        · subst c4; simp [wsMap, c1, c2, c3, ht]
        · by_cases c5 : y = Str.ofString "ch"
          · subst c5; simp [wsMap, c1, c2, c3, c4]
          · simp [wsMap, c1, c2, c3, c4, c5, h.out y c1 c2 c3 c4 c5]
def WsEnd (h₀ : Heap) (L I x dx : Addr) (it ox od : Obj) (m₀ : Str → Option Value) (Inv Fin : WSt → Prop) (s : Shared) (f : Flow) (s₂ : Shared) : Prop :=
  (f = .next ∨ f = .brk) ∧ ∃ h' tk' m' C lv ep st, s₂ = { s with heap := h', toks := tk' } ∧ Fr h₀ L h' m' ∧ News h₀ L h' [(I, it), (C, listOf (List.toArray lv) ep), (x, ox), (dx, od)] ∧ IntsAre lv st.cnt ∧
    (f = .next → Inv st) ∧ (f = .brk → Fin st) ∧ @Ne Nat C I ∧ @Ne Nat C x ∧ @Ne Nat C dx ∧ WsVars m' C st ∧ WsSame m' m₀
/-- the loop over a text of ' ', tab and 'x' -/
theorem ws_loop {xv : Str} {px : Pos} {ws : Str} {t : Tok} {C0 x dx : Addr} {ox od : Obj} {e0 : Nat} (hh : A.handled = none) (F : Fr h₀ env.locals s.heap m₀) (N : News h₀ env.locals s.heap news) (hok : WsOk ws)
    (hself : m₀ (Str.ofString "self") = some (.ref x)) (hv : WsVars m₀ C0 wsInit) (hm0 : (C0, listOf #[] e0) ∈ news) (hm1 : (x, ox) ∈ news) (hox : ox = instObj 154 dx) (hm2 : (dx, od) ∈ news) (n1 : @Ne Nat C0 x) (n2 : @Ne Nat C0 dx)
    (turn : ∀ I i c ch t st C lv ep tb tn tt u it h tk, ws.cps[i]? = some c → ((c = 32 ∧ ch = Str.ofString " ") ∨ (c = 9 ∧ ch = Str.ofString "\t") ∨ (c = 120 ∧ ch = Str.ofString "x")) → i < 1000 → WsInv ws i st → IntsAre lv st.cnt → it.cls = .type "str_ascii_iterator" → @Ne Nat C I → @Ne Nat C x → @Ne Nat C dx → @LT.lt Nat _ x I → @LT.lt Nat _ dx I →
      Fr h₀ env.locals h (wsMap m₀ C st.b st.n st.nt tb tn tt u) → News h₀ env.locals h [(I, it), (C, listOf (List.toArray lv) ep), (x, ox), (dx, od)] →
      wpAny (model prog w) A (assign (.Name xv px) env (.str ch t)) (fun _ s₃ => wpAny (model prog w) A (execs body env) (WsEnd h₀ env.locals I x dx it ox od m₀ (WsInv ws (i + 1)) (fun st => st = wsFin ws) s) E s₃) E { s with heap := h, toks := tk })
    (done : ∀ C lv ep tb tn tt u h tk, IntsAre lv (wsFin ws).cnt → @Ne Nat C x → @Ne Nat C dx → Fr h₀ env.locals h (wsMap m₀ C (wsFin ws).b (wsFin ws).n (wsFin ws).nt tb tn tt u) → News h₀ env.locals h [(C, listOf (List.toArray lv) ep), (x, ox), (dx, od)] → Q .next { s with heap := h, toks := tk }) :
    wpAny (model prog w) A (pyIter (.str ws t)) (fun it s₂ => TurnsAt prog w A h₀ env (.Name xv px) body Q E it s₂) E s := by
  have hLs : env.locals < s.heap.objs.size := F.ns.lt
  have hoff : ∀ p ∈ news, p.1 < s.heap.objs.size := fun p hp => Heap.lt_size (N p hp).1
  have hxI : @LT.lt Nat _ x s.heap.objs.size := hoff _ hm1
  have hdI : @LT.lt Nat _ dx s.heap.objs.size := hoff _ hm2
  have hC0 : @LT.lt Nat _ C0 s.heap.objs.size := hoff _ hm0
  refine wpAny_pyIter_ascii (ws_ascii hok) ?_
  have N3 : News h₀ env.locals s.heap [(C0, listOf #[] e0), (x, ox), (dx, od)] := fun p hp => N p (by
    rcases List.mem_cons.mp hp with rfl | hp
    · exact hm0
    · rcases List.mem_cons.mp hp with rfl | hp
      · exact hm1
      · rw [List.mem_singleton.mp hp]; exact hm2)
  have fin : ∀ m₁ h tk C lv ep (st : WSt), st = wsFin ws → IntsAre lv st.cnt → @Ne Nat C x → @Ne Nat C dx → WsVars m₁ C st → WsSame m₁ m₀ → Fr h₀ env.locals h m₁ → News h₀ env.locals h [(C, listOf (List.toArray lv) ep), (x, ox), (dx, od)] → Q .next { s with heap := h, toks := tk } := by
    intro m₁ h tk C lv ep st e a1 a2 a3 v sm F₁ N₁
    subst e
    obtain ⟨tb, tn, tt, em⟩ := wsMap_eq v sm
    rw [em] at F₁
    exact done C lv ep tb tn tt _ h tk a1 a2 a3 F₁ N₁
  refine turns_J (tk0 := s.toks) (ws := [(s.heap.objs.size, "str_ascii_iterator")]) (keep := []) (KTurns.ofWalks (Walks.strAscii hh s.heap.objs.size ws t) fun i v s Q E st q => wpAny_pure q)
    ?_ ?_ ?_ ?_ ?_ ⟨_, Heap.get?_push_size _ rfl, rfl, rfl⟩ (F.push _) (fun p hp => ⟨Heap.get?_push_of_some _ (N3 p hp).1, (N3 p hp).2⟩)
    (fun i m n => ∃ C lv ep st, n = [(C, listOf (List.toArray lv) ep), (x, ox), (dx, od)] ∧ IntsAre lv st.cnt ∧ WsInv ws i st ∧ @Ne Nat C s.heap.objs.size ∧ @Ne Nat C x ∧ @Ne Nat C dx ∧ WsVars m C st ∧ WsSame m m₀)
    ⟨C0, [], e0, wsInit, rfl, .nil, ws_zero, Nat.ne_of_lt hC0, n1, n2, hv, ⟨fun _ _ _ _ _ _ => rfl⟩⟩ (fun i m₁ n₁ hj => ⟨fun p hp hq => ?_, fun p hp => nomatch hp⟩) ?_ ?_
  · rintro i h ⟨it, h1, h2, h3⟩
    exact ⟨[(s.heap.objs.size, it)], ⟨⟨rfl, h2⟩, trivial⟩, fun p hp => by rw [List.mem_singleton.mp hp]; exact h1⟩
  · intro b hb
    have e : b = s.heap.objs.size := by simpa using hb
    subst e
    exact ⟨by simp, next_is_new F⟩
  · intro b hb; simpa using hb
  · intro b hb
    exact .inl (by simpa using hb)
  · intro hm
    exact Nat.ne_of_lt hLs (List.mem_singleton.mp hm)
  · obtain ⟨C, lv, ep, st, rfl, _, _, hne, _⟩ := hj
    have hq' : p.1 = s.heap.objs.size := by simpa using hq
    rcases List.mem_cons.mp hp with rfl | hp
    · exact hne hq'
    · rcases List.mem_cons.mp hp with rfl | hp
      · exact Nat.ne_of_lt hxI hq'
      · rw [List.mem_singleton.mp hp] at hq'; exact Nat.ne_of_lt hdI hq'
  · rintro i v m₁ n₁ h tk hi ⟨c, u, hc, rfl⟩ ⟨C, lv, ep, st, rfl, a1, a2, a3, a4, a5, a6, a7⟩ F₁
    refine fun it hit => fun N₁ => ?_
    obtain ⟨tb, tn, tt, em⟩ := wsMap_eq a6 a7
    rw [em] at F₁
    have hcs := hok.2 c (by have : ws.cps.toList[i]? = some c := by simpa using hc
                            exact List.mem_of_getElem? this)
    have hch : (c = 32 ∧ (⟨#[c]⟩ : Str) = Str.ofString " ") ∨ (c = 9 ∧ (⟨#[c]⟩ : Str) = Str.ofString "\t") ∨ (c = 120 ∧ (⟨#[c]⟩ : Str) = Str.ofString "x") := by
      rcases hcs with rfl | rfl | rfl
      · exact .inl ⟨rfl, by decide⟩
      · exact .inr (.inl ⟨rfl, by decide⟩)
      · exact .inr (.inr ⟨rfl, by decide⟩)
    refine wpAny_mono (turn _ i c _ u st C lv ep tb tn tt _ it h tk hc hch (by have := hok.1; lia) a2 a1 hit a3 a4 a5 hxI hdI F₁ N₁) (fun _ s₂ h₂ => wpAny_mono h₂ (fun f s₃ q => ?_) fun _ _ e => e) fun _ _ e => e
    obtain ⟨hf, h', tk', m', C', lv', ep', st', rfl, b1, b2, b3, b4, b5, b6, b7, b8, b9, b10⟩ := q
    rcases hf with rfl | rfl
    · exact ⟨h', tk', m', _, rfl, b1, b2, C', lv', ep', st', rfl, b3, b4 rfl, b6, b7, b8, b9, b10⟩
    · exact fin m' h' tk' C' lv' ep' st' (b5 rfl) b3 b7 b8 b9 b10 b1 fun p hp => b2 p (.tail _ hp)
  · rintro m₁ n₁ h tk ⟨C, lv, ep, st, rfl, a1, a2, a3, a4, a5, a6, a7⟩ F₁ N₁
    exact fin m₁ h tk C lv ep st (ws_done a2) a1 a4 a5 a6 a7 F₁ N₁
end
abbrev tupOf (its : Array Value) : Obj := { cls := .type "tuple", data := .seq its }
section
variable {prog : Program} {w : World} {A : Around} {E : Value → Shared → Prop} {s : Shared} {h₀ : Heap} {L : Addr} {m : Str → Option Value} {news : List (Addr × Obj)}
theorem g_subI {value slice : PySem.Expr} {l : Addr} {lv : List Value} {ts : List Int} {k : Nat} {x : Int} {t : Tok} {Q : Value → Shared → Prop} (N : News h₀ L s.heap news) (hm : (l, listOf (List.toArray lv) k) ∈ news) (hI : IntsAre lv ts) (h0 : Owe (0 ≤ x ∧ x < ts.length ∧ ts.length ≤ 1000000))
    (h : ∀ y ty, ts[x.toNat]? = some y → Q (.int y ty) s)
    (hb : subscripted slice false (.ref l) (.int x t) = operate [.ref l, .int x t] (getItem (.ref l) (.int x t)) := by with_unfolding_all rfl) :
    wpAny (model prog w) A (subscriptTail value slice (.ref l) (.int x t)) Q E s :=
  tail_any (Heap.IsList.typeIs (items := lv.toArray) ⟨_, (N _ hm).1, rfl, _, rfl⟩) slot_list_getitem.lookup (g_getI N hm hI h0 h) hb
theorem g_tupL {l : Addr} {lv : List Value} {ts : List Int} {k : Nat} {Q : Value → Shared → Prop} (F : Fr h₀ L s.heap m) (N : News h₀ L s.heap news) (hm : (l, listOf (List.toArray lv) k) ∈ news) (hI : IntsAre lv ts) (h0 : Owe (ts.length ≤ 1000000))
    (h : ∀ T h', Fr h₀ L h' m → News h₀ L h' ((T, tupOf lv.toArray) :: news) → (∀ p ∈ news, p.1 < T) → Q (.ref T) { s with heap := h' }) :
    wpAny (model prog w) A (call (.type "tuple") [.ref l]) Q E s := by
  refine call_tuple_list (items := lv.toArray) ⟨_, (N _ hm).1, rfl, _, rfl⟩ (fun h' hk => ?_) (by have := hI.length; have := h0.out; rw [List.size_toArray, sizeLine_eq]; lia)
  have F' := F.keeps hk
  have N' : News h₀ L h' news := N.grown hk
  refine h _ _ (F'.push _) (N'.push F' _) fun p hp => Heap.lt_size (N' p hp).1
end
theorem ch_space {c : Nat} {ch : Str} (h : (c = 32 ∧ ch = Str.ofString " ") ∨ (c = 9 ∧ ch = Str.ofString "\t") ∨ (c = 120 ∧ ch = Str.ofString "x")) (e : (ch == Str.ofString " ") = true) : c = 32 := by
  rcases h with ⟨h, _⟩ | ⟨_, rfl⟩ | ⟨_, rfl⟩
  · exact h
  · exact absurd e (by decide)
  · exact absurd e (by decide)
theorem ch_tab {c : Nat} {ch : Str} (h : (c = 32 ∧ ch = Str.ofString " ") ∨ (c = 9 ∧ ch = Str.ofString "\t") ∨ (c = 120 ∧ ch = Str.ofString "x")) (e : (ch == Str.ofString "\t") = true) : c = 9 := by
  rcases h with ⟨_, rfl⟩ | ⟨h, _⟩ | ⟨_, rfl⟩
  · exact absurd e (by decide)
  · exact h
  · exact absurd e (by decide)
theorem ch_x {c : Nat} {ch : Str} (h : (c = 32 ∧ ch = Str.ofString " ") ∨ (c = 9 ∧ ch = Str.ofString "\t") ∨ (c = 120 ∧ ch = Str.ofString "x")) (e : (ch == Str.ofString " ") = false) (e2 : (ch == Str.ofString "\t") = false) : c = 120 := by
  rcases h with ⟨_, rfl⟩ | ⟨_, rfl⟩ | ⟨h, _⟩
  · exact absurd e (by decide)
  · exact absurd e2 (by decide)
  · exact h
theorem ws_space' {x : Str} {i c : Nat} {st : WSt} (h : WsInv x i st) (e : x.cps[i]? = some c) (hc : c = 32) : WsInv x (i + 1) ⟨st.b + 1, st.n + 1, st.nt, st.cnt⟩ := by subst hc; exact ws_space h e
theorem wsBump_eq {b : Int} {cnt : List Int} {y : Int} (h : cnt[b.toNat]? = some y) : wsBump b cnt = cnt.set b.toNat (y + 1) := by simp [wsBump, List.getD, h]
theorem ws_tabG {x : Str} {i c : Nat} {st : WSt} {y : Int} (h : WsInv x i st) (e : x.cps[i]? = some c) (hc : c = 9) (hb : (st.cnt.length : Int) ≤ st.b) (hy : (st.cnt ++ List.replicate (st.b - st.cnt.length + 1).toNat 0)[st.b.toNat]? = some y) :
    WsInv x (i + 1) ⟨0, st.n + 1, st.nt + 1, (st.cnt ++ List.replicate (st.b - st.cnt.length + 1).toNat 0).set st.b.toNat (y + 1)⟩ := by
  subst hc
  have := ws_tab h e
  rw [wsGrow, if_pos (by lia), wsBump_eq hy] at this
  exact this
theorem ws_tabN {x : Str} {i c : Nat} {st : WSt} {y : Int} (h : WsInv x i st) (e : x.cps[i]? = some c) (hc : c = 9) (hb : ¬ (st.cnt.length : Int) ≤ st.b) (hy : st.cnt[st.b.toNat]? = some y) :
    WsInv x (i + 1) ⟨0, st.n + 1, st.nt + 1, st.cnt.set st.b.toNat (y + 1)⟩ := by
  subst hc
  have := ws_tab h e
  rw [wsGrow, if_neg (by lia), wsBump_eq hy] at this
  exact this
theorem ws_stop' {x : Str} {i c : Nat} {st : WSt} (h : WsInv x i st) (e : x.cps[i]? = some c) (hc : c = 120) : st = wsFin x := by subst hc; exact ws_stop h e
theorem ws_oA {x : Str} {i : Nat} {st : WSt} (h : WsInv x i st) (hi : i < 1000) (hb : (st.cnt.length : Int) ≤ st.b) : 0 ≤ st.b - st.cnt.length + 1 ∧ st.b - st.cnt.length + 1 ≤ 1000000 := by
  obtain ⟨h1, h2, h3, h4, h5, h6⟩ := h; lia
theorem ws_oB {x : Str} {i : Nat} {st : WSt} (h : WsInv x i st) (hi : i < 1000) (hb : (st.cnt.length : Int) ≤ st.b) : st.cnt.length + (List.replicate (st.b - st.cnt.length + 1).toNat (0 : Int)).length ≤ 1000000 := by
  obtain ⟨h1, h2, h3, h4, h5, h6⟩ := h; rw [List.length_replicate]; lia
theorem ws_oC {x : Str} {i : Nat} {st : WSt} (h : WsInv x i st) (hi : i < 1000) (hb : (st.cnt.length : Int) ≤ st.b) : 0 ≤ st.b ∧ st.b < ((st.cnt ++ List.replicate (st.b - st.cnt.length + 1).toNat (0 : Int)).length : Int) ∧ (st.cnt ++ List.replicate (st.b - st.cnt.length + 1).toNat (0 : Int)).length ≤ 1000000 := by
  have := ws_oB h hi hb
  obtain ⟨h1, h2, h3, h4, h5, h6⟩ := h; rw [List.length_append]; rw [List.length_replicate] at *; lia
theorem ws_oD {x : Str} {i : Nat} {st : WSt} (h : WsInv x i st) (hi : i < 1000) (hb : ¬ (st.cnt.length : Int) ≤ st.b) : 0 ≤ st.b ∧ st.b < (st.cnt.length : Int) ∧ st.cnt.length ≤ 1000000 := by
  obtain ⟨h1, h2, h3, h4, h5, h6⟩ := h; lia
theorem ws_oE {x : Str} {i : Nat} {st : WSt} (h : WsInv x i st) (hi : i < 1000) : st.cnt.length ≤ 1000000 := by
  obtain ⟨h1, h2, h3, h4, h5, h6⟩ := h; lia
theorem mx1 (a b r : Nat) : max a (b + 1 + 1) + r ≤ max a (b + 1) + (r + 1) :=
  Nat.le_trans (Nat.add_le_add_right (Nat.max_le.mpr ⟨Nat.le_succ_of_le (Nat.le_max_left a (b + 1)), Nat.succ_le_succ (Nat.le_max_right a (b + 1))⟩ : max a (b + 1 + 1) ≤ max a (b + 1) + 1) r) (Nat.le_of_eq (by rw [Nat.add_assoc, Nat.add_comm 1 r]))
theorem mx2 (a b r : Nat) : max (max a (b + 1)) (0 + 1) + r ≤ max a (b + 1) + (r + 1) :=
  Nat.add_le_add (Nat.max_le.mpr ⟨Nat.le_refl _, Nat.le_trans (Nat.succ_le_succ (Nat.zero_le b)) (Nat.le_max_right a (b + 1))⟩) (Nat.le_succ r)
theorem wsRun_len : ∀ (l : List Nat) (st : WSt), 0 ≤ st.b → (wsRun l st).cnt.length ≤ max st.cnt.length (st.b.toNat + 1) + l.length
  | [], st, _ => Nat.le_trans (Nat.le_max_left _ _) (Nat.le_add_right _ _)
  | c :: r, st, h => by
    unfold wsRun
    split
    · have := wsRun_len r (wsSpace st) (Int.le_add_one h)
      have e : (st.b + 1).toNat = st.b.toNat + 1 := Int.toNat_add h (by decide)
      simp only [wsSpace] at this
      rw [e] at this
      exact Nat.le_trans this (mx1 _ _ _)
    · split
      · have := wsRun_len r (wsTab st) (Int.le_refl 0)
        simp only [wsTab, wsBump_len, wsGrow_len _ _ h] at this
        exact Nat.le_trans this (mx2 _ _ _)
      · exact Nat.le_trans (Nat.le_max_left _ _) (Nat.le_add_right _ _)
theorem ws_fin_len {x : Str} (h : WsOk x) : (wsFin x).cnt.length ≤ 1000000 := by
  have := wsRun_len x.cps.toList wsInit (by simp [wsInit])
  have h1 := h.1
  simp only [wsInit, List.length_nil, Array.length_toList] at this
  unfold wsFin
  simp only [wsInit]
  lia
theorem ws_endN {h₀ h' : Heap} {L I x dx C : Addr} {it ox od : Obj} {m₀ m' : Str → Option Value} {Inv Fin : WSt → Prop} {s : Shared} {tk' : Nat} {lv : List Value} {ep : Nat} {st : WSt} {nw : List (Addr × Obj)} (F : Fr h₀ L h' m') (N : News h₀ L h' nw) (inv : Inv st) (hI : IntsAre lv st.cnt)
    (v : WsVars m' C st) (q0 : (C, listOf (List.toArray lv) ep) ∈ nw) (q1 : (I, it) ∈ nw) (q2 : (x, ox) ∈ nw) (q3 : (dx, od) ∈ nw) (n1 : @Ne Nat C I) (n2 : @Ne Nat C x) (n3 : @Ne Nat C dx) (sm : WsSame m' m₀) :
    WsEnd h₀ L I x dx it ox od m₀ Inv Fin s .next { s with heap := h', toks := tk' } := by
  refine ⟨.inl rfl, h', tk', m', C, lv, ep, st, rfl, F, fun p hp => ?_, hI, fun _ => inv, (fun q => by cases q), n1, n2, n3, v, sm⟩
  rcases List.mem_cons.mp hp with rfl | hp
  · exact N _ q1
  · rcases List.mem_cons.mp hp with rfl | hp
    · exact N _ q0
    · rcases List.mem_cons.mp hp with rfl | hp
      · exact N _ q2
      · rw [List.mem_singleton.mp hp]; exact N _ q3
theorem ws_endB {h₀ h' : Heap} {L I x dx C : Addr} {it ox od : Obj} {m₀ m' : Str → Option Value} {Inv Fin : WSt → Prop} {s : Shared} {tk' : Nat} {lv : List Value} {ep : Nat} {st : WSt} {nw : List (Addr × Obj)} (F : Fr h₀ L h' m') (N : News h₀ L h' nw) (inv : Fin st) (hI : IntsAre lv st.cnt)
    (v : WsVars m' C st) (q0 : (C, listOf (List.toArray lv) ep) ∈ nw) (q1 : (I, it) ∈ nw) (q2 : (x, ox) ∈ nw) (q3 : (dx, od) ∈ nw) (n1 : @Ne Nat C I) (n2 : @Ne Nat C x) (n3 : @Ne Nat C dx) (sm : WsSame m' m₀) :
    WsEnd h₀ L I x dx it ox od m₀ Inv Fin s .brk { s with heap := h', toks := tk' } := by
  refine ⟨.inr rfl, h', tk', m', C, lv, ep, st, rfl, F, fun p hp => ?_, hI, (fun q => by cases q), fun _ => inv, n1, n2, n3, v, sm⟩
  rcases List.mem_cons.mp hp with rfl | hp
  · exact N _ q1
  · rcases List.mem_cons.mp hp with rfl | hp
    · exact N _ q0
    · rcases List.mem_cons.mp hp with rfl | hp
      · exact N _ q2
      · rw [List.mem_singleton.mp hp]; exact N _ q3
abbrev ent (w : World) (k : Str) (t : Tok) (v : Value) : DictEntry := { hash := PyData.keyHash w.params k, key := .str k t, val := v }
abbrev wiDict (w : World) (ws : Str) (t : Tok) (st : WSt) (D : Addr) (sb : Bool) (t1 t2 t3 t4 t5 tn tt : Tok) (k : Nat) : Obj :=
  dictOf [ent w (Str.ofString "raw") t1 (.str ws t), ent w (Str.ofString "n") t2 (.int st.n tn), ent w (Str.ofString "nt") t3 (.int st.nt tt), ent w (Str.ofString "norm") t4 (.ref D), ent w (Str.ofString "is_simple") t5 (.bool sb)] k
/-- a new indent: x the object, dx its dict, D its norm, T the counts -/
def WiPost (w : World) (ws : Str) (t : Tok) (H : Heap) (r : Value) (h' : Heap) : Prop :=
  ∃ (x dx D T : Addr) (lv : List Value) (sb : Bool) (t1 t2 t3 t4 t5 tn tt tb : Tok) (k : Nat), r = .ref x ∧ H.get? x = none ∧ H.get? dx = none ∧ H.get? D = none ∧ H.get? T = none ∧ @LT.lt Nat _ dx x ∧ @LT.lt Nat _ x T ∧ @LT.lt Nat _ T D ∧
    h'.get? x = some (instObj 154 dx) ∧ h'.get? dx = some (wiDict w ws t (wsFin ws) D sb t1 t2 t3 t4 t5 tn tt k) ∧ h'.get? D = some (tupOf #[.ref T, .int (wsFin ws).b tb]) ∧ h'.get? T = some (tupOf lv.toArray) ∧ IntsAre lv (wsFin ws).cnt
theorem wi_post {w : World} {ws : Str} {t : Tok} {H g h' : Heap} {L x dx D T : Addr} {lv : List Value} {sb : Bool} {t1 t2 t3 t4 t5 tn tt tb : Tok} {k : Nat} {nw : List (Addr × Obj)} (hg : ∀ b o, H.get? b = some o → g.get? b = some o) (f1 : H.get? x = none) (f2 : H.get? dx = none) (N : News g L h' nw)
    (q1 : (x, instObj 154 dx) ∈ nw) (q2 : (dx, wiDict w ws t (wsFin ws) D sb t1 t2 t3 t4 t5 tn tt k) ∈ nw) (q3 : (D, tupOf #[.ref T, .int (wsFin ws).b tb]) ∈ nw) (q4 : (T, tupOf lv.toArray) ∈ nw) (hI : IntsAre lv (wsFin ws).cnt) (l1 : @LT.lt Nat _ dx x) (l2 : @LT.lt Nat _ x T) (l3 : @LT.lt Nat _ T D) : WiPost w ws t H (.ref x) h' := by
  have fr : ∀ b o, (b, o) ∈ nw → H.get? b = none := fun b o hm => by
    cases e : H.get? b with
    | none => rfl
    | some o' => have := hg b o' e; rw [(N _ hm).2.2] at this; cases this
  exact ⟨x, dx, D, T, lv, sb, t1, t2, t3, t4, t5, tn, tt, tb, k, rfl, f1, f2, fr _ _ q3, fr _ _ q4, l1, l2, l3, (N _ q1).1, (N _ q2).1, (N _ q3).1, (N _ q4).1, hI⟩
end Mine
end

section
open PySem PySem.W PyProof.Rows PySem.Calls
set_option Elab.async false
set_option maxRecDepth 100000
set_option maxHeartbeats 8000000
namespace Mine
section
variable {w : World} {p : Program} {loose : List Str} {mean : ExcName → Option Value} {mg mb : Str → Option Value}
theorem fillWi : ∀ h : Heap, (Mine.hd.heap_39 w.params).In h → PySem.Challenge.rw_xg0080_01 = PySem.Challenge.rw_xg0080_01 := by k_fill; intro _ _; rfl
theorem wi_con (ws : Str) (t : Tok) (hok : WsOk ws) : Con w p loose mean mg mb 154 [.str ws t] 10 80 [] (fun h => True) (WiPost w ws t) := by
  refine' con_cls ?k1 ?k2 ?k3 ?k6 ?k7 ?kd ?k9 ?kB ?c5 ?c2 ?c3 ?c4 ?_
  case k1 => k_is
  case k2 => k_is
  case k3 => k_is
  case k6 => k_is
  case k7 => k_is
  case kd => decide
  case k9 => exact fun _ => rfl
  case kB => exact fun _ => locs rfl
  case c5 => decide
  case c2 => exact rfl
  case c3 => exact rfl
  case c4 => exact rfl
  intro dp un gd outer A₀ base H g x dx L' h₁ s Q E hHg fx fdx l1 l2 B' F' N' X' T' hdp hun hpre hret
  (try k_fold)
  repeat' (
    first
    | (k_unfold; (try dsimp only)) | (k_end; wrow_close)
    | ((with_reducible show wpAny _ _ (pyIter (Value.str _ _)) _ _ _); (k_here; (with_reducible rename Fr _ _ _ _ => wF); (with_reducible rename News _ _ _ _ => wN); k_dflt (refine' ws_loop ?hh ?wF ?wN ?k0 ?k1 ?k2 ?k3 ?k4 ?k5 ?k6 ?k7 ?k8 ?_ ?_; (case hh => exact rfl); (case wF => exact wF); (case wN => exact wN); (case k0 => assumption); (case k1 => exact rfl); (case k2 => exact ⟨rfl, ⟨_, rfl⟩, ⟨_, rfl⟩, ⟨_, rfl⟩⟩); (case k3 => k_mem); (case k4 => k_mem); (case k5 => exact rfl); (case k6 => k_mem); (case k7 => k_ne); (case k8 => k_ne)); rotate_left; (intro C' lv' ep' tb' tn' tt' u' h' tk' e1' e2' e3' F' N'; (try dsimp only); (try k_fold)); rotate_left; (intro I' i' c' ch' t' st' C' lv' ep' tb' tn' tt' u' it' h' tk' e1' e2' e3' e4' e5' e6' e7' e8' e9' e10' e11' F' N'; (try dsimp only))))
    | ((with_reducible show wpAny _ _ (exec (Stmt.For _ _ _ _ _) _) _ _ _); (k_here; k_dflt (refine For_turns (by k_asm) ?_)))
    | ((with_reducible show wpAny _ _ (binaryOp Operator.Add (Value.ref _) (Value.ref _)) _ _ _); (k_here; k_dflt (refine' g_addl ?k1 ?k2 ?k3 ?k4 ?k5 ?k6 ?_ ?_; (case k1 => k_asm); (case k2 => k_asm); (case k3 => k_mem); (case k4 => k_mem); (case k5 => assumption); (case k6 => assumption)); rotate_left; intro l' h' vs' hI' F' N' l1; (try k_lt l1)))
    | ((with_reducible show wpAny _ _ (call (Value.type "tuple") _ _) _ _ _); (k_here; k_dflt (refine' g_tupL ?k1 ?k2 ?k3 ?k4 ?_ ?_; (case k1 => k_asm); (case k2 => k_asm); (case k3 => k_mem); (case k4 => with_reducible assumption)); rotate_left; intro T' h' F' N' l1; (try k_lt l1)))
    | ((with_reducible show wpAny _ _ (subscriptTail (Expr.Name _ _) (Expr.Name _ _) (Value.ref _) (Value.int _ _)) _ _ _); (k_here; k_dflt (refine' g_subI ?k1 ?k2 ?k3 ?_ ?_; (case k1 => k_asm); (case k2 => k_mem); (case k3 => with_reducible assumption)); rotate_left; intro y' ty' ey'))
    | ((with_reducible show wpAny _ _ (setItem (Value.ref _) (Value.int _ _) _) _ _ _); (k_here; (with_reducible show wpAny _ _ (setItem (Value.ref _) (Value.int _ _) (Value.int _ _)) _ _ _); k_dflt (refine' g_setI ?k1 ?k2 ?k3 ?k4 ?_ ?_; (case k1 => k_asm); (case k2 => k_asm); (case k3 => k_updF); (case k4 => with_reducible assumption)); rotate_left; intro h' lv' ep' hI' F' N'; (try dsimp only at N')))
    | ((with_reducible show wpAny _ _ (call (Value.builtin "len") _ _) _ _ _); (k_here; k_dflt (refine' g_len ?k1 ?k2 ?k3 ?_ ?_; (case k1 => k_asm); (case k2 => k_mem); (case k3 => assumption)); rotate_left))
    | ((with_reducible show wpAny _ _ (binaryOp Operator.Mult (Value.ref _) (Value.int _ _)) _ _ _); (k_here; k_dflt (refine' g_rep1 ?k1 ?k2 ?k3 ?_ ?_; (case k1 => k_asm); (case k2 => k_asm); (case k3 => k_mem)); rotate_left; intro l' vs' h' hI' F' N' l1; (try k_lt l1)))
    | walk1 | (dsimp only; walk1) | (leave1; walk_say "STEP leave1"; try dsimp only) | fail "no step")
  all_goals (first
    | exact ⟨ws_oA (by assumption) (by assumption) (by assumption)⟩
    | exact ⟨ws_oB (by assumption) (by assumption) (by assumption)⟩
    | exact ⟨ws_oC (by assumption) (by assumption) (by assumption)⟩
    | exact ⟨ws_oD (by assumption) (by assumption) (by assumption)⟩
    | exact ⟨ws_oE (by assumption) (by assumption)⟩
    | exact ⟨ws_fin_len hok⟩
    | (refine' hret _ _ (Fr.keep (by assumption)) (wi_post hHg fx fdx (by assumption) ?q1 ?q2 ?q3 ?q4 (by assumption) ?q5 ?q6 ?q7)
       case q1 => k_mem
       case q2 => k_mem
       case q3 => k_mem
       case q4 => k_mem
       case q5 => refine ltN ?_; omega
       case q6 => refine ltN ?_; omega
       case q7 => refine ltN ?_; omega)
    | (refine' ws_endN (st := ⟨_, _, _, _⟩) (by assumption) (by assumption) ?inv ?hI ?v ?m0 ?m1 ?m2 ?m3 ?n1 ?n2 ?n3 ?sm
       case inv => first | exact ws_space' (by assumption) (by assumption) (ch_space (by assumption) (by assumption)) | exact ws_tabG (by assumption) (by assumption) (ch_tab (by assumption) (by assumption)) (by assumption) (by assumption) | exact ws_tabN (by assumption) (by assumption) (ch_tab (by assumption) (by assumption)) (by assumption) (by assumption)
       case hI => assumption
       case v => exact ⟨rfl, ⟨_, rfl⟩, ⟨_, rfl⟩, ⟨_, rfl⟩⟩
       case m0 => k_mem
       case m1 => k_mem
       case m2 => k_mem
       case m3 => k_mem
       case n1 => k_ne
       case n2 => k_ne
       case n3 => k_ne
       case sm => exact ⟨by intro y h1 h2 h3 h4 h5; simp +zetaDelta [wsMap, h1, h2, h3, h4, h5]⟩)
    | (refine' ws_endB (st := ⟨_, _, _, _⟩) (by assumption) (by assumption) ?inv ?hI ?v ?m0 ?m1 ?m2 ?m3 ?n1 ?n2 ?n3 ?sm
       case inv => exact ws_stop' (by assumption) (by assumption) (ch_x (by assumption) (by assumption) (by assumption))
       case hI => assumption
       case v => exact ⟨rfl, ⟨_, rfl⟩, ⟨_, rfl⟩, ⟨_, rfl⟩⟩
       case m0 => k_mem
       case m1 => k_mem
       case m2 => k_mem
       case m3 => k_mem
       case n1 => k_ne
       case n2 => k_ne
       case n3 => k_ne
       case sm => exact ⟨by intro y h1 h2 h3 h4 h5; simp +zetaDelta [wsMap, h1, h2, h3, h4, h5]⟩)
    | skip)
end
end Mine
end

section
open PySem PySem.W PyProof.Rows PySem.Calls
set_option Elab.async false
set_option maxRecDepth 100000
set_option linter.unusedVariables false
namespace Mine
def wsumF : Nat → List Int → Int
  | _, [] => 0
  | i, c :: r => i * c + wsumF (i + 1) r
theorem wsumF_snoc : ∀ (l : List Int) (i : Nat) (c : Int), wsumF i (l ++ [c]) = wsumF i l + (i + l.length : Nat) * c
  | [], i, c => by simp [wsumF]
  | x :: r, i, c => by
    have ih := wsumF_snoc r (i + 1) c
    have e : i + 1 + r.length = i + (r.length + 1) := by lia
    rw [e] at ih
    simp only [List.cons_append, wsumF, List.length_cons, ih]
    lia
theorem wsumF_take {cs : List Int} {i : Nat} {c : Int} (h : cs[i]? = some c) : wsumF 0 (cs.take (i + 1)) = wsumF 0 (cs.take i) + (i : Int) * c := by
  have hl := (List.getElem?_eq_some_iff.mp h).1
  rw [List.take_add_one, h]
  simp only [Option.toList_some]
  rw [wsumF_snoc, List.length_take]
  have : min i cs.length = i := by lia
  rw [this]; simp
theorem wsumF_zero {cs : List Int} : wsumF 0 (cs.take 1) = 0 := by
  cases cs with
  | nil => rfl
  | cons c r => simp [wsumF]
theorem fitsL {i : Int} (h0 : 0 ≤ i) (h1 : i ≤ 1000000) : Builtin.Range.rangeFitsLong i = true := by
  unfold Builtin.Range.rangeFitsLong
  rw [Bool.and_eq_true, decide_eq_true_eq, decide_eq_true_eq]
  exact ⟨by lia, by lia⟩
theorem rangeSize_one {b : Int} : Builtin.Range.rangeSize 1 b 1 = ((b - 1).toNat : Int) := by
  unfold Builtin.Range.rangeSize
  simp
  split <;> lia
section
variable {prog : Program} {w : World} {A : Around} {E : Value → Shared → Prop} {s : Shared} {env : Env} {h₀ : Heap} {body : List Stmt} {Q : Flow → Shared → Prop} {m₀ : Str → Option Value} {news : List (Addr × Obj)}
theorem rng_turns {x : Str} {px : Pos} {a b : Int} {ta tb : Tok} {n : Nat} (hh : A.handled = none) (F : Fr h₀ env.locals s.heap m₀) (N : News h₀ env.locals s.heap news) (hsm : Builtin.Range.small a b 1 = true) (hn : Builtin.Range.rangeSize a b 1 = (n : Int))
    (J : Nat → (Str → Option Value) → List (Addr × Obj) → Prop) (h0 : J 0 m₀ news) (hJ : ∀ i m n₁, J i m n₁ → ∀ p ∈ n₁, ∃ o, (p.1, o) ∈ news)
    (turn : ∀ I i t m₁ n₁ h tk it, (∀ p ∈ news, p.1 < I) → i < n → J i m₁ n₁ → it.cls = .type "range_iterator" → Fr h₀ env.locals h m₁ → News h₀ env.locals h ((I, it) :: n₁) →
      wpAny (model prog w) A (assign (.Name x px) env (.int (a + i) t)) (fun _ s₃ => wpAny (model prog w) A (execs body env) (TEnd h₀ env.locals [(I, it)] (J (i + 1)) { s with heap := h, toks := tk } Q) E s₃) E { s with heap := h, toks := tk })
    (done : ∀ m₁ n₁ h tk, J n m₁ n₁ → Fr h₀ env.locals h m₁ → News h₀ env.locals h n₁ → Q .next { s with heap := h, toks := tk }) :
    wpAny (model prog w) A (call (.type "range") [.int a ta, .int b tb]) (fun xv s₁ => wpAny (model prog w) A (pyIter xv) (fun it s₂ => TurnsAt prog w A h₀ env (.Name x px) body Q E it s₂) E s₁) E s := by
  have hLs : env.locals < s.heap.objs.size := F.ns.lt
  have hoff : ∀ p ∈ news, p.1 < s.heap.objs.size := fun p hp => Heap.lt_size (N p hp).1
  refine call_range_2 ?_
  refine wpAny_pyIter_range (IsRange.new s.heap a b 1 ta tb s.toks) hsm ?_
  have z1 : (s.heap.push { cls := .type "range", data := .fields #[.int a ta, .int b tb, .int 1 s.toks] }).objs.size = s.heap.objs.size + 1 := Heap.size_push ..
  have F1 := F.push { cls := .type "range", data := .fields #[.int a ta, .int b tb, .int 1 s.toks] }
  have N1 := N.grown (h' := s.heap.push { cls := .type "range", data := .fields #[.int a ta, .int b tb, .int 1 s.toks] }) fun b o e => Heap.get?_push_of_some _ e
  rw [z1]
  refine turns_J (tk0 := s.toks + 1) (ws := [(s.heap.objs.size + 1, "range_iterator")]) (keep := []) (KTurns.ofWalks (Walks.range hh (s.heap.objs.size + 1) a 1 n) fun i v s Q E st q => wpAny_pure q)
    ?_ ?_ ?_ ?_ ?_ ?_ (F1.push _) (fun p hp => ⟨Heap.get?_push_of_some _ (N1 p hp).1, (N1 p hp).2⟩) J h0 (fun i m₁ n₁ hj => ⟨fun p hp hq => ?_, fun p hp => nomatch hp⟩) ?_ ?_
  · rintro i h hit
    have : ∃ o : Obj, h.get? (s.heap.objs.size + 1) = some o ∧ o.cls = .type "range_iterator" := ⟨_, hit, rfl⟩
    obtain ⟨it, h1, h2⟩ := this
    exact ⟨[(s.heap.objs.size + 1, it)], ⟨⟨rfl, h2⟩, trivial⟩, fun p hp => by rw [List.mem_singleton.mp hp]; exact h1⟩
  · intro b hb
    have e : b = s.heap.objs.size + 1 := by simpa using hb
    subst e
    exact ⟨by simp, ktu_new F (Nat.le_add_right _ _)⟩
  · intro b hb; simpa using hb
  · intro b hb
    exact .inl (by simpa using hb)
  · intro hm
    exact ktu_ne 1 hLs (List.mem_singleton.mp hm)
  · have := Heap.get?_push_size (s.heap.push { cls := .type "range", data := .fields #[.int a ta, .int b tb, .int 1 s.toks] }) (o := { cls := .type "range_iterator", data := .fields #[rawInt a, rawInt (Builtin.Range.rangeSize a b 1), rawInt 1] }) rfl
    rw [z1, hn] at this
    show Heap.get? _ _ = _
    rw [hn]
    simpa using this
  · obtain ⟨o, ho⟩ := hJ _ _ _ hj p hp
    have hlp : p.1 < s.heap.objs.size := hoff (p.1, o) ho
    exact ktu_ne 1 hlp (by simpa using hq)
  · rintro i v m₁ n₁ h tk hi ⟨t, rfl⟩ hj F₁
    have e : a + (i : Int) * 1 = a + i := by lia
    rw [e]
    exact fun it hit => fun N₁ => turn (s.heap.objs.size + 1) i t m₁ n₁ h tk it (fun p hp => Nat.lt_succ_of_lt (hoff p hp)) hi hj hit F₁ N₁
  · intro m₁ n₁ h tk hj F₁ N₁
    exact done m₁ n₁ h tk hj F₁ N₁
abbrev ilMap (m₀ : Str → Option Value) (v : Int) (t : Tok) (u : Option Value) : Str → Option Value := fun y => if y = Str.ofString "il" then some (.int v t) else if y = Str.ofString "i" then u else m₀ y
theorem ilMap_eq {m₀ m : Str → Option Value} {v : Int} {t : Tok} (a : m (Str.ofString "il") = some (.int v t)) (h : ∀ y, y ≠ Str.ofString "il" → y ≠ Str.ofString "i" → m y = m₀ y) : m = ilMap m₀ v t (m (Str.ofString "i")) := by
  funext y
  by_cases c1 : y = Str.ofString "il"
  · subst c1; simp [ilMap, a]
  · by_cases c2 : y = Str.ofString "i"
    · subst c2; simp [ilMap, c1]
    · simp [ilMap, c1, c2, h y c1 c2]
def IlEnd (h₀ : Heap) (L I : Addr) (it : Obj) (m₀ : Str → Option Value) (news : List (Addr × Obj)) (v' : Int) (s : Shared) (f : Flow) (s₂ : Shared) : Prop :=
  f = .next ∧ ∃ h' tk' m' t, s₂ = { s with heap := h', toks := tk' } ∧ Fr h₀ L h' m' ∧ News h₀ L h' ((I, it) :: news) ∧ m' (Str.ofString "il") = some (.int v' t) ∧ ∀ y, y ≠ Str.ofString "il" → y ≠ Str.ofString "i" → m' y = m₀ y
theorem il_loop {x : Str} {px : Pos} {cs : List Int} {lv : List Value} {T : Addr} {ta tb t0 : Tok} (hh : A.handled = none) (F : Fr h₀ env.locals s.heap m₀) (N : News h₀ env.locals s.heap news) (hm : (T, tupOf lv.toArray) ∈ news) (hI : IntsAre lv cs) (h0 : Owe (cs.length ≤ 1000000)) (hm0 : m₀ (Str.ofString "il") = some (.int 0 t0))
    (turn : ∀ I i t v tv u h tk it, (∀ p ∈ news, p.1 < I) → i < cs.length → v = wsumF 0 (cs.take i) → it.cls = .type "range_iterator" → Fr h₀ env.locals h (ilMap m₀ v tv u) → News h₀ env.locals h ((I, it) :: news) →
      wpAny (model prog w) A (assign (.Name x px) env (.int (i : Int) t)) (fun _ s₃ => wpAny (model prog w) A (execs body env) (IlEnd h₀ env.locals I it m₀ news (wsumF 0 (cs.take (i + 1))) s) E s₃) E { s with heap := h, toks := tk })
    (done : ∀ v tv u h tk, v = wsumF 0 cs → Fr h₀ env.locals h (ilMap m₀ v tv u) → News h₀ env.locals h news → Q .next { s with heap := h, toks := tk }) :
    wpAny (model prog w) A (call (.type "range") [.int 1 ta, .int (lv.toArray.size : Int) tb]) (fun xv s₁ => wpAny (model prog w) A (pyIter xv) (fun it s₂ => TurnsAt prog w A h₀ env (.Name x px) body Q E it s₂) E s₁) E s := by
  have hlen : lv.toArray.size = cs.length := by rw [List.size_toArray]; exact hI.length
  rw [hlen]
  have hb := h0.out
  refine rng_turns (n := cs.length - 1) hh F N ?_ ?_ (fun i m n => n = news ∧ ∃ t, m (Str.ofString "il") = some (.int (wsumF 0 (cs.take (i + 1))) t) ∧ ∀ y, y ≠ Str.ofString "il" → y ≠ Str.ofString "i" → m y = m₀ y)
    ⟨rfl, t0, by rw [wsumF_zero]; exact hm0, fun _ _ _ => rfl⟩ ?_ ?_ ?_
  · unfold Builtin.Range.small
    rw [rangeSize_one]
    simp
    exact ⟨⟨⟨⟨fitsL (by lia) (by lia), fitsL (by lia) (by lia)⟩, fitsL (by lia) (by lia)⟩, fitsL (by lia) (by lia)⟩, .inr (fitsL (by lia) (by lia))⟩
  · rw [rangeSize_one]; lia
  · rintro i m n ⟨rfl, _⟩ p hp; exact ⟨p.2, hp⟩
  · rintro I i t m₁ n₁ h tk it hoff hi ⟨rfl, tv, a1, a2⟩ hcls F₁ N₁
    rw [ilMap_eq a1 a2] at F₁
    have e : (1 : Int) + i = ((i + 1 : Nat) : Int) := by lia
    rw [e]
    refine wpAny_mono (turn I (i + 1) t _ tv _ h tk it hoff (by lia) rfl hcls F₁ N₁) (fun _ s₂ h₂ => wpAny_mono h₂ (fun f s₃ q => ?_) fun _ _ e => e) fun _ _ e => e
    obtain ⟨rfl, h', tk', m', t', rfl, b1, b2, b3, b4⟩ := q
    exact ⟨h', tk', m', _, rfl, b1, b2, rfl, t', b3, b4⟩
  · rintro m₁ n₁ h tk ⟨rfl, tv, a1, a2⟩ F₁ N₁
    rw [ilMap_eq a1 a2] at F₁
    refine done _ tv _ h tk ?_ F₁ N₁
    rw [List.take_of_length_le (by lia)]
end
section
variable {prog : Program} {w : World} {A : Around} {E : Value → Shared → Prop} {s : Shared} {h₀ : Heap} {L : Addr} {m : Str → Option Value} {news : List (Addr × Obj)}
theorem g_lenT {l : Addr} {lv : List Value} {ts : List Int} {Q : Value → Shared → Prop} (N : News h₀ L s.heap news) (hm : (l, tupOf lv.toArray) ∈ news) (hI : IntsAre lv ts) (h0 : Owe (ts.length ≤ 1000000))
    (h : Q (.int lv.toArray.size (s.toks + 1)) { s with toks := s.toks + 1 + 1 }) : wpAny (model prog w) A (call (.builtin "len") [.ref l]) Q E s :=
  len_tuple ⟨_, (N _ hm).1, rfl, _, rfl⟩ (by have := hI.length; have := h0.out; rw [List.size_toArray]; lia) h
theorem g_subT {value slice : PySem.Expr} {l : Addr} {lv : List Value} {ts : List Int} {x : Int} {t : Tok} {Q : Value → Shared → Prop} (N : News h₀ L s.heap news) (hm : (l, tupOf lv.toArray) ∈ news) (hI : IntsAre lv ts) (h0 : Owe (0 ≤ x ∧ x < ts.length ∧ ts.length ≤ 1000000))
    (h : ∀ y ty, ts[x.toNat]? = some y → Q (.int y ty) s)
    (hb : subscripted slice false (.ref l) (.int x t) = operate [.ref l, .int x t] (getItem (.ref l) (.int x t)) := by with_unfolding_all rfl) :
    wpAny (model prog w) A (subscriptTail value slice (.ref l) (.int x t)) Q E s := by
  obtain ⟨a1, a2, a3⟩ := h0.out
  obtain ⟨y, ty, e1, e2⟩ := ints_get hI (i := x.toNat) (by lia)
  have ht : IsTup s.heap l lv.toArray := ⟨_, (N _ hm).1, rfl, _, rfl⟩
  refine tail_any ht.typeIs slot_tuple_getitem.lookup (getItem_tuple (j := x.toNat) (x := .int y ty) ht (by lia) (by lia) ?_ ?_ (h y ty e2)) hb
  · have := hI.length
    rw [List.size_toArray]
    unfold seqIndex?
    simp
    lia
  · simpa using e1
end
theorem il_div (i : Int) : 0 < (1 : Int) ∧ Builtin.divisionGoesByPylong i 1 = false := ⟨by decide, PyProof.noPylong_of_log2 (by decide +kernel)⟩
theorem mul_one_ok (v : Int) : IntMulOk 1 v := IntMulOk.of_left (by decide)
theorem mul_i_ok {i : Nat} {y : Int} (h : i ≤ 1000000) : IntMulOk ((i : Int) / 1) y := IntMulOk.of_left (by rw [Int.ediv_one]; exact intBits_le_64 (by lia) (by lia))
theorem il_step {cs : List Int} {i : Nat} {v y : Int} (e : v = wsumF 0 (cs.take i)) (h : cs[(i : Int).toNat]? = some y) : v + (i : Int) / 1 * y = wsumF 0 (cs.take (i + 1)) := by
  have h' : cs[i]? = some y := by simpa using h
  rw [wsumF_take h', e, Int.ediv_one]
def IlPre (w : World) (ws : Str) (t : Tok) (x dx D T : Addr) (lv : List Value) (sb : Bool) (t1 t2 t3 t4 t5 tn tt tb : Tok) (k : Nat) (H : Heap) : Prop :=
    H.get? x = some (instObj 154 dx) ∧ H.get? dx = some (wiDict w ws t (wsFin ws) D sb t1 t2 t3 t4 t5 tn tt k) ∧ H.get? D = some (tupOf #[.ref T, .int (wsFin ws).b tb]) ∧ H.get? T = some (tupOf lv.toArray)
def wsLevel (ws : Str) : Int := (wsFin ws).b + (wsumF 0 (wsFin ws).cnt + (wsFin ws).nt)
def IlPost (ws : Str) (x dx D T : Addr) (H : Heap) (r : Value) (h' : Heap) : Prop := (∀ b ∈ [x, dx, D, T], h'.get? b = H.get? b) ∧ ∃ t, r = .int (wsLevel ws) t
theorem il_post {ws : Str} {x dx D T : Addr} {H h' g : Heap} {L : Addr} {nw : List (Addr × Obj)} {o1 o2 o3 o4 : Obj} {v : Int} {t : Tok} (N : News g L h' nw) (q1 : (x, o1) ∈ nw) (q2 : (dx, o2) ∈ nw) (q3 : (D, o3) ∈ nw) (q4 : (T, o4) ∈ nw) (p1 : H.get? x = some o1) (p2 : H.get? dx = some o2) (p3 : H.get? D = some o3) (p4 : H.get? T = some o4)
    (e : v = wsumF 0 (wsFin ws).cnt) : IlPost ws x dx D T H (.int ((wsFin ws).b + 1 * (v + (wsFin ws).nt)) t) h' := by
  refine ⟨fun b hb => ?_, t, by rw [e, Int.one_mul]; rfl⟩
  simp only [List.mem_cons, List.not_mem_nil, or_false] at hb
  rcases hb with rfl | rfl | rfl | rfl
  · rw [p1]; exact (N _ q1).1
  · rw [p2]; exact (N _ q2).1
  · rw [p3]; exact (N _ q3).1
  · rw [p4]; exact (N _ q4).1
end Mine
end

section
open PySem PySem.W PyProof.Rows PySem.Calls
set_option Elab.async false
set_option maxRecDepth 100000
set_option maxHeartbeats 8000000
namespace Mine
section
variable {w : World} {p : Program} {loose : List Str} {mean : ExcName → Option Value} {mg mb : Str → Option Value}
theorem fillIl : ∀ h : Heap, (Mine.hd.heap_39 w.params).In h → PySem.Challenge.rw_xg0080_01 = PySem.Challenge.rw_xg0080_01 := by k_fill; intro _ _; rfl
theorem il_con (ws : Str) (t ta : Tok) (x dx D T : Addr) (lv : List Value) (sb : Bool) (t1 t2 t3 t4 t5 tn tt tb : Tok) (k : Nat) (hI : IntsAre lv (wsFin ws).cnt) (hok : WsOk ws) (l1 : @LT.lt Nat _ dx x) (l2 : @LT.lt Nat _ x T) (l3 : @LT.lt Nat _ T D) :
    Con w p loose mean mg mb 123 [.ref x, .int 1 ta] 10 80 [x, dx, D, T] (IlPre w ws t x dx D T lv sb t1 t2 t3 t4 t5 tn tt tb k) (IlPost ws x dx D T) := by
  refine' con_ofK ?k6 ?k7 ?kd ?k9 ?kB ?c5 ?c2 ?c3 ?c4 ?_
  case k6 => k_is
  case k7 => k_is
  case kd => decide
  case k9 => exact rfl
  case kB => exact locs rfl
  case c5 => decide
  case c2 => exact rfl
  case c3 => exact rfl
  case c4 => exact rfl
  intro dp un gd outer A₀ base H g L' h₁ s Q E eg eL B' F' hk₁ X' T' hdp hun hpre hret
  obtain ⟨p1, p2, p3, p4⟩ := hpre
  have hfl := ws_fin_len hok
  have N' : News g L' h₁ [(x, instObj 154 dx), (dx, wiDict w ws t (wsFin ws) D sb t1 t2 t3 t4 t5 tn tt k), (D, tupOf #[.ref T, .int (wsFin ws).b tb]), (T, tupOf lv.toArray)] := news_hid eg eL hk₁ (by
    intro q hq
    simp only [List.mem_cons, List.not_mem_nil, or_false] at hq
    rcases hq with rfl | rfl | rfl | rfl
    · exact ⟨by simp, p1⟩
    · exact ⟨by simp, p2⟩
    · exact ⟨by simp, p3⟩
    · exact ⟨by simp, p4⟩)
  (try dsimp only [wiDict, ent, tupOf] at N')
  (try k_fold)
  repeat' (
    first
    | (k_unfold; (try dsimp only)) | (k_end; wrow_close)
    | ((with_reducible show wpAny _ _ (subscriptTail (Expr.Name _ _) (Expr.Name _ _) (Value.ref _) (Value.int _ _)) _ _ _); (k_here; k_dflt (refine' g_subT ?k1 ?k2 ?k3 ?_ ?_; (case k1 => k_asm); (case k2 => k_mem); (case k3 => with_reducible assumption)); rotate_left; intro y' ty' ey'))
    | ((with_reducible show wpAny _ _ (call (Value.builtin "len") _ _) _ _ _); (k_here; k_dflt (refine' g_lenT ?k1 ?k2 ?k3 ?_ ?_; (case k1 => k_asm); (case k2 => k_mem); (case k3 => assumption)); rotate_left))
    | ((with_reducible show wpAny _ _ (call (Value.type "range") _ _) _ _ _); (k_here; (with_reducible rename Fr _ _ _ _ => wF); (with_reducible rename News _ _ _ _ => wN); k_dflt (refine' il_loop ?hh ?wF ?wN ?k5 ?k6 ?_ ?k1 ?_ ?_; (case hh => exact rfl); (case wF => exact wF); (case wN => exact wN); (case k5 => k_mem); (case k6 => assumption); (case k1 => exact rfl)); rotate_left; (intro I' i' t' v' tv' u' h' tk' it' l1 e1' e2' e3' F' N'; (try k_lt l1)); rotate_left; (intro v' tv' u' h' tk' e1' F' N'; (try dsimp only); (try k_fold))))
    | ((with_reducible show wpAny _ _ (exec (Stmt.For _ _ _ _ _) _) _ _ _); (k_here; k_dflt (refine For_turns (by k_asm) ?_)))
    | walk1 | (dsimp only; walk1) | (leave1; walk_say "STEP leave1"; try dsimp only) | fail "no step")
  all_goals (first
    | exact ⟨hfl⟩
    | exact ⟨mul_one_ok _⟩
    | exact ⟨il_div _⟩
    | exact ⟨mul_i_ok (by omega)⟩
    | exact ⟨⟨by omega, by omega, hfl⟩⟩
    | (refine' hret _ _ _ (Fr.keep (by assumption)) (il_post (by assumption) ?q1 ?q2 ?q3 ?q4 p1 p2 p3 p4 (by assumption))
       case q1 => k_mem
       case q2 => k_mem
       case q3 => k_mem
       case q4 => k_mem)
    | (refine' ⟨rfl, _, _, _, _, rfl, ?a1, ?a2, ?a3, ?a6⟩
       case a1 => assumption
       case a2 => assumption
       case a3 => exact congrArg (fun v => some (Value.int v _)) (il_step (by assumption) (by assumption))
       case a6 => intro y h1 h2; simp +zetaDelta [ilMap, h1, h2])
    | skip)
end
end Mine
end

section
open PySem PySem.W PyProof.Rows PySem.Calls
set_option Elab.async false
set_option maxRecDepth 100000
set_option linter.unusedVariables false
namespace Mine
theorem plain_pat : PlainAttrs "re.Pattern" :=
  ⟨⟨"object.__getattribute__", by rw [typeLookup_type, builtinLookup_eq_fast]; kernel_rfl, by decide +kernel⟩, by rw [typeLookup_type, builtinLookup_eq_fast]; kernel_rfl⟩
theorem plain_mat : PlainAttrs "re.Match" :=
  ⟨⟨"object.__getattribute__", by rw [typeLookup_type, builtinLookup_eq_fast]; kernel_rfl, by decide +kernel⟩, by rw [typeLookup_type, builtinLookup_eq_fast]; kernel_rfl⟩
theorem slot_search : Slot "re.Pattern" "search" "re.Pattern.search" :=
  .of (owner := "re.Pattern") (n := "search") (by rw [typeLookup_type, builtinLookup_eq_fast]; kernel_rfl) (by decide +kernel) (by decide +kernel) (by decide +kernel)
    (by first | exact .inl (by decide +kernel) | exact .inr (by decide +kernel)) (by rw [isSubtype_type]; kernel_rfl)
theorem type_search : typeOf (.builtin "re.Pattern.search") = pure (.type "method_descriptor") := by show builtinType _ = _; rw [builtinType_eq_fast]; kernel_rfl
theorem entry_search : entryFor table "re.Pattern.search" = some Builtin.«re.Pattern.search» := entryFor_of_tree (by kernel_rfl)
theorem slot_group : Slot "re.Match" "group" "re.Match.group" :=
  .of (owner := "re.Match") (n := "group") (by rw [typeLookup_type, builtinLookup_eq_fast]; kernel_rfl) (by decide +kernel) (by decide +kernel) (by decide +kernel)
    (by first | exact .inl (by decide +kernel) | exact .inr (by decide +kernel)) (by rw [isSubtype_type]; kernel_rfl)
theorem type_group : typeOf (.builtin "re.Match.group") = pure (.type "method_descriptor") := by show builtinType _ = _; rw [builtinType_eq_fast]; kernel_rfl
theorem entry_group : entryFor table "re.Match.group" = some Builtin.«re.Match.group» := entryFor_of_tree (by kernel_rfl)
theorem slot_span : Slot "re.Match" "span" "re.Match.span" :=
  .of (owner := "re.Match") (n := "span") (by rw [typeLookup_type, builtinLookup_eq_fast]; kernel_rfl) (by decide +kernel) (by decide +kernel) (by decide +kernel)
    (by first | exact .inl (by decide +kernel) | exact .inr (by decide +kernel)) (by rw [isSubtype_type]; kernel_rfl)
theorem type_span : typeOf (.builtin "re.Match.span") = pure (.type "method_descriptor") := by show builtinType _ = _; rw [builtinType_eq_fast]; kernel_rfl
theorem entry_span : entryFor table "re.Match.span" = some Builtin.«re.Match.span» := entryFor_of_tree (by kernel_rfl)
end Mine
end

section
open PySem PySem.Sre
set_option Elab.async false
set_option maxRecDepth 100000
set_option linter.unusedVariables false
set_option linter.unusedSimpArgs false
namespace Mine
def rxCode : Array Nat := #[14, 8, 1, 2, 4294967295, 1, 1, 46, 0, 16, 46, 24, 9, 1, 4294967295, 13, 4, 8, 0, 0, 1, 6, 5, 1]
abbrev rxF (s : Nat) (b : Bool) : Sre.Frame := { wait := .nextStart, pc := 9, pos := s, outermost := b }
abbrev rxG (s : Nat) (b : Bool) : Sre.Frame := { wait := .giveBack, pc := 11, pos := s + 2, outermost := b, count := 1, kept := { lastmark := -1, lastindex := -1, whole := false, marks := #[] } }
abbrev mX (t : Array Nat) (s pc pos hd : Nat) (b : Bool) (fr : List Sre.Frame) (wt : Nat) (an : Option Bool) (sn : Seen) (oc : Option Sre.Outcome) : M :=
  { code := rxCode, text := t, lim := t.size, start := s, lastStart := t.size, pc := pc, pos := pos, handed := hd, outermost := b, marks := #[], frames := fr, weight := wt, answer := an, seen := sn, outcome := oc }
/-- an attempt begun at s -/
abbrev mA (t : Array Nat) (s : Nat) (b : Bool) (sn : Seen) : M := mX t s 9 s s b [rxF s b] 1 none sn none
abbrev mB (t : Array Nat) (s : Nat) (b : Bool) (sn : Seen) : M := mX t s 11 (s + 1) s b [rxF s b] 1 none sn none
abbrev mC (t : Array Nat) (s : Nat) (b : Bool) (sn : Seen) : M := mX t s 21 (s + 2) (s + 2) b [rxG s b, rxF s b] 2 none sn none
theorem st_char {t : Array Nat} {s : Nat} {b : Bool} {sn : Seen} (h : s < t.size) (hc : t.getD s 0 ≠ 46) : (mA t s b sn).step = mX t s 9 s s b [rxF s b] 1 (some false) (sn.add 16) none := by
  have h2 : ¬ t.size ≤ s := Nat.not_le.mpr h
  have h3 : (t[s]?.getD 0 == 46) = false := by simpa [Array.getD_eq_getD_getElem?] using hc
  simp [M.step, M.exec, M.word, rxCode, ops, accepts, h2, M.say]
  rw [h3]
  rfl
theorem st_dot {t : Array Nat} {s : Nat} {b : Bool} {sn : Seen} (h : s < t.size) (hc : t.getD s 0 = 46) : (mA t s b sn).step = mB t s b (sn.add 16) := by
  have h2 : ¬ t.size ≤ s := Nat.not_le.mpr h
  have h3 : (t[s]?.getD 0 == 46) = true := by simpa [Array.getD_eq_getD_getElem?] using hc
  simp [M.step, M.exec, M.word, rxCode, ops, accepts, h2, M.say]
  rw [h3]
  simp [itemWidth, ops, rxCode]
theorem st_none {t : Array Nat} {b : Bool} {sn : Seen} : (mA t t.size b sn).step = mX t t.size 9 t.size t.size b [rxF t.size b] 1 (some false) (sn.add 16) none := by
  simp [M.step, M.exec, M.word, rxCode, ops, accepts, M.say]
theorem st_next {t : Array Nat} {s : Nat} {b b' : Bool} {sn : Seen} {st hd : Nat} {pc pos : Nat} (h : s < t.size) :
    M.step (mX t st pc pos hd b' [rxF s b] 1 (some false) sn none) = mA t (s + 1) false sn := by
  show (if s < t.size then M.attemptFrom _ (s + 1) false else _) = _
  rw [if_pos h]
  rfl
theorem acc_digit (c : Nat) (sn : Seen) : ∃ sn', accepts rxCode 15 c sn = .ok (isDigit c, sn') := by
  simp [accepts, rxCode, ops, inSet, category]
  cases isDigit c
  · exact ⟨_, rfl⟩
  · exact ⟨_, rfl⟩
theorem run_one {t : Array Nat} {n p : Nat} {sn : Seen} (hn : 1 ≤ n) (h1 : isDigit (t.getD p 0) = true) (h2 : n = 1 ∨ isDigit (t.getD (p + 1) 0) = false) : ∃ sn', Sre.run rxCode t 15 n p 0 sn = .ok (1, sn') := by
  obtain ⟨k, rfl⟩ : ∃ k, n = k + 1 := ⟨n - 1, by lia⟩
  obtain ⟨s1, e1⟩ := acc_digit (t.getD p 0) sn
  rw [h1] at e1
  unfold Sre.run
  rw [e1]
  show ∃ sn', Sre.run rxCode t 15 k (p + 1) 1 s1 = .ok (1, sn')
  cases k with
  | zero => exact ⟨s1, rfl⟩
  | succ k =>
    have h3 : isDigit (t.getD (p + 1) 0) = false := by
      rcases h2 with h2 | h2
      · lia
      · exact h2
    obtain ⟨s2, e2⟩ := acc_digit (t.getD (p + 1) 0) s1
    rw [h3] at e2
    unfold Sre.run
    rw [e2]
    exact ⟨s2, rfl⟩
theorem st_rep {t : Array Nat} {s : Nat} {b : Bool} {sn : Seen} (h : s + 1 < t.size) (h1 : isDigit (t.getD (s + 1) 0) = true) (h2 : s + 2 = t.size ∨ isDigit (t.getD (s + 2) 0) = false) (hsz : t.size ≤ 1000000) : ∃ sn', (mB t s b sn).step = mC t s b sn' := by
  obtain ⟨sn', e⟩ := run_one (t := t) (n := min 4294967295 ((t.size : Int) - ((s + 1 : Nat) : Int)).toNat) (p := s + 1) (sn := (sn.add 24).add 13) (by lia) h1 (by rcases h2 with h2 | h2; exact .inl (by lia); exact .inr h2)
  refine ⟨sn', ?_⟩
  have hr : ¬ ((t.size : Int) - ((s : Int) + 1) < 1) := by lia
  simp [M.step, M.exec, M.word, rxCode, ops, M.say, hr]
  rw [show (((s + 1 : Nat) : Int)) = (s : Int) + 1 by lia] at e
  unfold rxCode at e
  rw [e]
  rfl
theorem st_atNo {t : Array Nat} {s : Nat} {b : Bool} {sn : Seen} (h : s + 2 ≠ t.size) (h2 : t.getD (s + 2) 0 ≠ 10) : ∃ sn', (mC t s b sn).step = mX t s 21 (s + 2) (s + 2) b [rxG s b, rxF s b] 2 (some false) sn' none := by
  refine ⟨(sn.add 6).add 48, ?_⟩
  have h3 : ¬ t[s + 2]?.getD 0 = 10 := by simpa [Array.getD_eq_getD_getElem?] using h2
  simp [M.step, M.exec, M.word, rxCode, ops, M.say, M.isAt, h, h3]
theorem st_gb {t : Array Nat} {s : Nat} {b : Bool} {sn : Seen} : M.step (mX t s 21 (s + 2) (s + 2) b [rxG s b, rxF s b] 2 (some false) sn none) = mX t s 11 (s + 2) (s + 2) b [rxF s b] 1 (some false) sn none := by
  simp [M.step, M.resume, M.putBack, M.word, rxCode, M.say]
theorem st_atYes {t : Array Nat} {s : Nat} {b : Bool} {sn : Seen} (h : s + 2 = t.size) : ∃ sn', (mC t s b sn).step = mX t s 23 (s + 2) (s + 2) b [rxG s b, rxF s b] 2 none sn' none := by
  refine ⟨(sn.add 6).add 48, ?_⟩
  simp [M.step, M.exec, M.word, rxCode, ops, M.say, M.isAt, h]
theorem st_succ {t : Array Nat} {s : Nat} {b : Bool} {sn : Seen} : ∃ sn', M.step (mX t s 23 (s + 2) (s + 2) b [rxG s b, rxF s b] 2 none sn none) = mX t s 23 (s + 2) (s + 2) b [rxG s b, rxF s b] 2 (some true) sn' none := by
  refine ⟨sn.add 1, ?_⟩
  simp [M.step, M.exec, M.word, rxCode, ops, M.say]
theorem st_gbY {t : Array Nat} {s : Nat} {b : Bool} {sn : Seen} : M.step (mX t s 23 (s + 2) (s + 2) b [rxG s b, rxF s b] 2 (some true) sn none) = mX t s 11 (s + 2) (s + 2) b [rxF s b] 1 (some true) sn none := by
  simp [M.step, M.resume, M.say]
theorem st_nxY {t : Array Nat} {s : Nat} {b : Bool} {sn : Seen} : M.step (mX t s 11 (s + 2) (s + 2) b [rxF s b] 1 (some true) sn none) = mX t s 9 s (s + 2) b [] 0 (some true) sn none := by
  simp [M.step, M.resume, M.say]
theorem st_end {t : Array Nat} {s : Nat} {b : Bool} {sn : Seen} : M.step (mX t s 9 s (s + 2) b [] 0 (some true) sn none) = mX t s 9 s (s + 2) b [] 0 (some true) sn (some .matched) := by
  simp [M.step]
theorem st_noneN {t : Array Nat} {b : Bool} {sn : Seen} : M.step (mX t t.size 9 t.size t.size b [rxF t.size b] 1 (some false) sn none) = mX t t.size 9 t.size t.size b [] 0 (some false) sn none := by
  simp [M.step, M.resume, M.say]
theorem st_noneE {t : Array Nat} {b : Bool} {sn : Seen} : M.step (mX t t.size 9 t.size t.size b [] 0 (some false) sn none) = mX t t.size 9 t.size t.size b [] 0 (some false) sn (some .failed) := by
  simp [M.step]
theorem runFor_some : ∀ (n : Nat) {m : M}, m.outcome.isSome = true → M.runFor n m = m
  | 0, _, _ => rfl
  | n + 1, m, h => by unfold M.runFor; rw [if_pos h]
theorem runFor_add : ∀ (a b : Nat) (m : M), M.runFor (a + b) m = M.runFor b (M.runFor a m)
  | 0, b, m => by rw [Nat.zero_add]; rfl
  | a + 1, b, m => by
    rw [Nat.add_right_comm]
    by_cases h : m.outcome.isSome = true
    · rw [runFor_some _ h, runFor_some _ h, runFor_some _ h]
    · show (if m.outcome.isSome = true then m else M.runFor (a + b) m.step) = M.runFor b (if m.outcome.isSome = true then m else M.runFor a m.step)
      rw [if_neg h, if_neg h, runFor_add a b]
theorem runFor_one {m : M} {n : Nat} (h : m.outcome = none) : M.runFor (n + 1) m = M.runFor n m.step := by
  show (if m.outcome.isSome = true then m else M.runFor n m.step) = _
  rw [if_neg (by rw [h]; decide)]
/-- what a search ends with -/
structure RxFound (t : Array Nat) (s : Nat) (m : M) : Prop where
  o : m.outcome = some .matched
  st : m.start = s
  hd : m.handed = t.size
  lm : m.lastmark = -1
  li : m.lastindex = -1
  mks : m.marks = #[]
theorem rx_char {t : Array Nat} {s : Nat} {b : Bool} {sn : Seen} (h : s < t.size) (hc : t.getD s 0 ≠ 46) : ∃ sn', M.runFor 2 (mA t s b sn) = mA t (s + 1) false sn' := by
  refine ⟨sn.add 16, ?_⟩
  rw [runFor_one rfl, st_char h hc, runFor_one rfl, st_next h]
  rfl
theorem rx_dot {t : Array Nat} {s : Nat} {b : Bool} {sn : Seen} (h : s + 2 < t.size) (hc : t.getD s 0 = 46) (h1 : isDigit (t.getD (s + 1) 0) = true) (h2 : t.getD (s + 2) 0 = 46) (hsz : t.size ≤ 1000000) : ∃ sn', M.runFor 5 (mA t s b sn) = mA t (s + 1) false sn' := by
  obtain ⟨s1, e1⟩ := st_rep (t := t) (s := s) (b := b) (sn := sn.add 16) (by lia) h1 (.inr (by rw [h2]; decide)) hsz
  obtain ⟨s2, e2⟩ := st_atNo (t := t) (s := s) (b := b) (sn := s1) (by lia) (by rw [h2]; decide)
  refine ⟨s2, ?_⟩
  rw [runFor_one rfl, st_dot (by lia) hc, runFor_one rfl, e1, runFor_one rfl, e2, runFor_one rfl, st_gb, runFor_one rfl, st_next (by lia)]
  rfl
theorem rx_last {t : Array Nat} {s : Nat} {b : Bool} {sn : Seen} (h : s + 2 = t.size) (hc : t.getD s 0 = 46) (h1 : isDigit (t.getD (s + 1) 0) = true) (hsz : t.size ≤ 1000000) : RxFound t s (M.runFor 7 (mA t s b sn)) := by
  obtain ⟨s1, e1⟩ := st_rep (t := t) (s := s) (b := b) (sn := sn.add 16) (by lia) h1 (.inl h) hsz
  obtain ⟨s2, e2⟩ := st_atYes (t := t) (s := s) (b := b) (sn := s1) h
  obtain ⟨s3, e3⟩ := st_succ (t := t) (s := s) (b := b) (sn := s2)
  rw [runFor_one rfl, st_dot (by lia) hc, runFor_one rfl, e1, runFor_one rfl, e2, runFor_one rfl, e3, runFor_one rfl, st_gbY, runFor_one rfl, st_nxY, runFor_one rfl, st_end]
  exact ⟨rfl, rfl, h, rfl, rfl, rfl⟩
theorem rx_end {t : Array Nat} {s : Nat} {b : Bool} {sn : Seen} (h : s = t.size) : (M.runFor 3 (mA t s b sn)).outcome = some .failed := by
  subst h
  rw [runFor_one rfl, st_none, runFor_one rfl, st_noneN, runFor_one rfl, st_noneE]
  rfl

/-- the texts that are searched -/
def hostTail (cs : List Nat) : List Nat := cs.flatMap fun c => [46, 48 + c]
def hostL (cs : List Nat) : List Nat := [112, 117, 114, 115, 101] ++ hostTail cs
theorem hostTail_len : ∀ cs : List Nat, (hostTail cs).length = 2 * cs.length
  | [] => rfl
  | c :: r => by
    have := hostTail_len r
    simp only [hostTail, List.flatMap_cons, List.length_append, List.length_cons, List.length_nil] at *
    lia
theorem hostL_len (cs : List Nat) : (hostL cs).length = 5 + 2 * cs.length := by
  simp only [hostL, List.length_append, hostTail_len]; rfl
theorem hostTail_get : ∀ (cs : List Nat) (j : Nat), j < cs.length → (hostTail cs)[2 * j]? = some 46 ∧ (hostTail cs)[2 * j + 1]? = (cs[j]?).map (48 + ·)
  | [], j, h => by simp at h
  | c :: r, 0, h => by simp [hostTail]
  | c :: r, j + 1, h => by
    have ih := hostTail_get r j (by simpa using h)
    have e : 2 * (j + 1) = 2 * j + 2 := by lia
    have e2 : 2 * (j + 1) + 1 = 2 * j + 1 + 2 := by lia
    rw [e2, e]
    simp only [hostTail, List.flatMap_cons] at ih ⊢
    exact ⟨ih.1, by simpa using ih.2⟩
structure RxOk (cs : List Nat) : Prop where
  len : cs.length ≤ 4
  dig : ∀ c ∈ cs, 1 ≤ c ∧ c ≤ 8
theorem host_dot {cs : List Nat} {j : Nat} (h : j < cs.length) : (hostL cs).toArray.getD (5 + 2 * j) 0 = 46 := by
  have := (hostTail_get cs j h).1
  rw [Array.getD_eq_getD_getElem?, List.getElem?_toArray, hostL, List.getElem?_append_right (by simp)]
  have e : 5 + 2 * j - [112, 117, 114, 115, 101].length = 2 * j := by simp
  rw [e, this]; rfl
theorem host_dig {cs : List Nat} {j : Nat} (h : j < cs.length) : ∃ c, cs[j]? = some c ∧ (hostL cs).toArray.getD (5 + 2 * j + 1) 0 = 48 + c := by
  have := (hostTail_get cs j h).2
  refine ⟨cs[j], List.getElem?_eq_getElem h, ?_⟩
  rw [Array.getD_eq_getD_getElem?, List.getElem?_toArray, hostL, List.getElem?_append_right (by simp; lia)]
  have e : 5 + 2 * j + 1 - [112, 117, 114, 115, 101].length = 2 * j + 1 := by simp; lia
  rw [e, this, List.getElem?_eq_getElem h]; rfl
theorem host_low {cs : List Nat} {s : Nat} (h : s < 5) : (hostL cs).toArray.getD s 0 ≠ 46 := by
  rw [Array.getD_eq_getD_getElem?, List.getElem?_toArray, hostL, List.getElem?_append_left (by simp; lia)]
  have : s = 0 ∨ s = 1 ∨ s = 2 ∨ s = 3 ∨ s = 4 := by lia
  rcases this with rfl | rfl | rfl | rfl | rfl <;> decide
theorem is_dig {c : Nat} (h : 1 ≤ c ∧ c ≤ 8) : isDigit (48 + c) = true := by
  unfold isDigit
  simp; lia
/-- the tail of the search, from the j-th dot -/
theorem rx_dots {cs : List Nat} (hok : RxOk cs) : ∀ (k j : Nat), j + k + 1 = cs.length → ∀ b sn, ∃ N, N ≤ 7 * k + 7 ∧ RxFound (hostL cs).toArray (5 + 2 * (cs.length - 1)) (M.runFor N (mA (hostL cs).toArray (5 + 2 * j) b sn)) := by
  have hsz : (hostL cs).toArray.size = 5 + 2 * cs.length := by rw [List.size_toArray, hostL_len]
  have hl := hok.len
  intro k
  induction k with
  | zero =>
    intro j hj b sn
    obtain ⟨c, hc, hd⟩ := host_dig (cs := cs) (j := j) (by lia)
    have e : cs.length - 1 = j := by lia
    rw [e]
    exact ⟨7, by lia, rx_last (by rw [hsz]; lia) (host_dot (by lia)) (by rw [hd]; exact is_dig (hok.dig c (List.mem_of_getElem? hc))) (by rw [hsz]; lia)⟩
  | succ k ih =>
    intro j hj b sn
    obtain ⟨c, hc, hd⟩ := host_dig (cs := cs) (j := j) (by lia)
    have hdg := hok.dig c (List.mem_of_getElem? hc)
    have h2 : (hostL cs).toArray.getD (5 + 2 * j + 2) 0 = 46 := by
      have := host_dot (cs := cs) (j := j + 1) (by lia)
      rw [show 5 + 2 * (j + 1) = 5 + 2 * j + 2 by lia] at this; exact this
    obtain ⟨s1, e1⟩ := rx_dot (t := (hostL cs).toArray) (s := 5 + 2 * j) (b := b) (sn := sn) (by rw [hsz]; lia) (host_dot (by lia)) (by rw [hd]; exact is_dig hdg) h2 (by rw [hsz]; lia)
    obtain ⟨s2, e2⟩ := rx_char (t := (hostL cs).toArray) (s := 5 + 2 * j + 1) (b := false) (sn := s1) (by rw [hsz]; lia) (by rw [hd]; lia)
    obtain ⟨N, hN, hf⟩ := ih (j + 1) (by lia) false s2
    refine ⟨5 + (2 + N), by lia, ?_⟩
    rw [runFor_add, e1, runFor_add, e2]
    exact hf
theorem rx_lows {cs : List Nat} (hok : RxOk cs) : ∀ (k s : Nat), s + k = 5 → ∀ b sn, ∃ N b' sn', N ≤ 2 * k ∧ M.runFor N (mA (hostL cs).toArray s b sn) = mA (hostL cs).toArray 5 b' sn' := by
  have hsz : (hostL cs).toArray.size = 5 + 2 * cs.length := by rw [List.size_toArray, hostL_len]
  intro k
  induction k with
  | zero =>
    intro s hs b sn
    obtain rfl : s = 5 := by lia
    exact ⟨0, b, sn, by lia, rfl⟩
  | succ k ih =>
    intro s hs b sn
    obtain ⟨s1, e1⟩ := rx_char (t := (hostL cs).toArray) (s := s) (b := b) (sn := sn) (by rw [hsz]; lia) (host_low (by lia))
    obtain ⟨N, b', sn', hN, e⟩ := ih (s + 1) (by lia) false s1
    refine ⟨2 + N, b', sn', by lia, ?_⟩
    rw [runFor_add, e1]
    exact e
theorem forSearch_eq {t : Array Nat} (h : 5 ≤ t.size) : ∃ sn, Sre.forSearch rxCode t 0 0 t.size false = mA t 0 true sn := by
  refine ⟨({} : Seen).add 14, ?_⟩
  have h2 : ¬ (0 > t.size ∨ t.size - 0 < 2) := by lia
  show (if (decide (0 > t.size) || decide (t.size - 0 < 2)) = true then _ else _) = _
  rw [if_neg (by simpa using h2)]
  rfl
theorem rx_found {cs : List Nat} (hok : RxOk cs) (h1 : 1 ≤ cs.length) : ∃ N, N ≤ 100 ∧ RxFound (hostL cs).toArray (5 + 2 * (cs.length - 1)) (M.runFor N (Sre.forSearch rxCode (hostL cs).toArray 0 0 (hostL cs).toArray.size false)) := by
  obtain ⟨sn, e⟩ := forSearch_eq (t := (hostL cs).toArray) (by rw [List.size_toArray, hostL_len]; lia)
  obtain ⟨N1, b1, s1, hN1, e1⟩ := rx_lows hok 5 0 rfl true sn
  obtain ⟨N2, hN2, hf⟩ := rx_dots hok (cs.length - 1) 0 (by lia) b1 s1
  have hl := hok.len
  refine ⟨N1 + N2, by lia, ?_⟩
  rw [e, runFor_add, e1]
  exact hf
theorem rx_none {cs : List Nat} (h1 : cs = []) : ∃ N, N ≤ 100 ∧ (M.runFor N (Sre.forSearch rxCode (hostL cs).toArray 0 0 (hostL cs).toArray.size false)).outcome = some .failed := by
  subst h1
  obtain ⟨sn, e⟩ := forSearch_eq (t := (hostL []).toArray) (by decide)
  obtain ⟨N1, b1, s1, hN1, e1⟩ := rx_lows (cs := []) ⟨by decide, by simp⟩ 5 0 rfl true sn
  refine ⟨N1 + 3, by lia, ?_⟩
  rw [e, runFor_add, e1]
  exact rx_end (by decide)
end Mine
end

section
open PySem PySem.W PyProof.Rows PySem.Calls
open AutoSeq1 (wpAny_loadPart')
open PySem.Builtin.Re
set_option Elab.async false
set_option maxRecDepth 100000
set_option maxHeartbeats 1000000
set_option linter.unusedVariables false
namespace Mine
theorem owner_pat : Manifest.owners.lookup (String.ofList ['n','r','e','t','t','a','P','.','e','r'].reverse) = some Manifest.sig_re_Pattern := by kernel_rfl
theorem args_search (a b : Value) : argsOk "re.Pattern.search" ⟨[a, b], []⟩ := by
  unfold argsOk; rw [signature?_of (id := "re.Pattern.search") (n := ['h','c','r','a','e','s']) (o := ['n','r','e','t','t','a','P','.','e','r']) (by kernel_rfl) owner_pat]; kernel_rfl
theorem owner_mat : Manifest.owners.lookup (String.ofList ['h','c','t','a','M','.','e','r'].reverse) = some Manifest.sig_re_Match := by kernel_rfl
theorem args_group (a b : Value) : argsOk "re.Match.group" ⟨[a, b], []⟩ := by
  unfold argsOk; rw [signature?_of (id := "re.Match.group") (n := ['p','u','o','r','g']) (o := ['h','c','t','a','M','.','e','r']) (by kernel_rfl) owner_mat]; kernel_rfl
theorem args_span (a b : Value) : argsOk "re.Match.span" ⟨[a, b], []⟩ := by
  unfold argsOk; rw [signature?_of (id := "re.Match.span") (n := ['n','a','p','s']) (o := ['h','c','t','a','M','.','e','r']) (by kernel_rfl) owner_mat]; kernel_rfl
abbrev patObj : Obj := { cls := .type "re.Pattern", data := .fields #[.str (Str.ofString "\\.\\d+$") 301, .int 256 328, .int 0 0, .none, .none, .ref 49, .int 0 0] }
abbrev codeItems : Array Value := #[.int 14 0, .int 8 0, .int 1 0, .int 2 0, .int 4294967295 0, .int 1 0, .int 1 0, .int 46 0, .int 0 0, .int 16 0, .int 46 0, .int 24 0, .int 9 0, .int 1 0, .int 4294967295 0, .int 13 0, .int 4 0, .int 8 0, .int 0 0, .int 0 0, .int 1 0, .int 6 0, .int 5 0, .int 1 0]
abbrev codeTup : Obj := { cls := .type "tuple", data := .seq codeItems }
theorem code_eq : Array.map (fun x => x.toNat) (Array.map reRawOf codeItems) = rxCode := by simp [reRawOf, rxCode]
section
variable {prog : Program} {w : World} {A : Around} {E : Value → Shared → Prop} {s : Shared}
theorem wp_drive : ∀ (n turns : Nat) {m : Sre.M} {s : Shared} {Q : Sre.M → Shared → Prop}, n + 1 ≤ turns → (Sre.M.runFor (4 * (n + 1)) m).outcome.isSome = true → Q (Sre.M.runFor (4 * (n + 1)) m) s → wpAny (model prog w) A (reDrive turns m) Q E s
  | n, 0, _, _, _, h, _, _ => by omega
  | 0, T + 1, m, s, Q, h, ho, hq => by
    show wpAny _ A (if (Sre.M.runFor 4 m).outcome.isSome = true then pure (Sre.M.runFor 4 m) else _) Q E s
    rw [if_pos ho]
    exact wpAny_pure hq
  | n + 1, T + 1, m, s, Q, h, ho, hq => by
    show wpAny _ A (if (Sre.M.runFor 4 m).outcome.isSome = true then pure (Sre.M.runFor 4 m) else (do rule "sre.turn"; reDrive T (Sre.M.runFor 4 m))) Q E s
    have e : 4 * (n + 1 + 1) = 4 + 4 * (n + 1) := by omega
    rw [e, runFor_add] at ho hq
    split
    · rename_i hs
      rw [runFor_some _ hs] at hq
      exact wpAny_pure hq
    · refine wpAny_bind (wpAny_rule ?_)
      exact wp_drive n T (by omega) ho hq
theorem wp_names {c : Nat → Bool} {f : Nat → String} {Q : PUnit → Shared → Prop} : ∀ (l : List Nat), Q ⟨⟩ s → wpAny (model prog w) A (forIn l PUnit.unit fun i r => (do if c i = true then (do rule (f i); pure (ForInStep.yield PUnit.unit)) else pure (ForInStep.yield PUnit.unit))) Q E s
  | [], h => by
    rw [List.forIn_nil]; exact wpAny_pure h
  | i :: r, h => by
    rw [List.forIn_cons]
    refine wpAny_bind ?_
    split
    · exact wpAny_bind (wpAny_rule (wpAny_pure (wp_names r h)))
    · exact wpAny_pure (wp_names r h)
theorem wp_target {x : Str} {t : Tok} {Q : ReTarget → Shared → Prop} (h50 : s.heap.get? 50 = some patObj) (h49 : s.heap.get? 49 = some codeTup) (hx : x.cps.size ≤ 1000000)
    (h : Q { pattern := .ref 50, string := .str x t, code := rxCode, text := x.cps, kind := 0, groups := 0, pos := 0, lim := x.cps.size } s) :
    wpAny (model prog w) A (reTarget "re.Pattern.search" "search" ⟨[.ref 50, .str x t], []⟩) Q E s := by
  unfold reTarget
  wp_walk using wpAny_loadPart' h50, wpAny_loadPart' h49
  have e1 : min (Int.toNat 0) x.cps.size = 0 := by simp
  have e2 : min (Int.toNat (2 ^ 63 - 1)) x.cps.size = x.cps.size := by
    have : (Int.toNat (2 ^ 63 - 1)) = 9223372036854775807 := by decide
    rw [this]; omega
  show Q { pattern := .ref 50, string := .str x t, code := Array.map (fun x => x.toNat) (Array.map reRawOf codeItems), text := x.cps, kind := 0, groups := 0, pos := min (Int.toNat 0) x.cps.size, lim := min (Int.toNat (2 ^ 63 - 1)) x.cps.size } s
  rw [e1, e2, code_eq]
  exact h
theorem wp_toEnd {m : Sre.M} {N : Nat} {Q : Option Sre.M → Shared → Prop} (hN : N ≤ 100) (ho : (Sre.M.runFor N m).outcome.isSome = true)
    (h : ∀ r, (match (Sre.M.runFor N m).outcome with | some .matched => r = some (Sre.M.runFor N m) | some .failed => r = none | _ => False) → Q r s)
    (hok : match (Sre.M.runFor N m).outcome with | some .matched => True | some .failed => True | _ => False) : wpAny (model prog w) A (reRunToEnd m) Q E s := by
  have hmore : ∀ k, Sre.M.runFor (N + k) m = Sre.M.runFor N m := fun k => by rw [runFor_add, runFor_some _ ho]
  obtain ⟨k, hk⟩ : ∃ k, 4 * (30 + 1) = N + k := ⟨124 - N, by omega⟩
  unfold reRunToEnd
  refine wpAny_bind (wp_drive 30 (2 ^ 64) (by decide) ?_ ?_)
  · rw [hk, hmore]; exact ho
  · rw [hk, hmore]
    generalize Sre.M.runFor N m = m' at *
    refine wpAny_bind ?_
    refine wp_names (c := m'.seen.has) (f := fun i => Sre.names.getD i "") _ ?_
    split
    · rename_i e; rw [e] at h; exact wpAny_pure (h _ rfl)
    · rename_i e; rw [e] at h; exact wpAny_pure (h _ rfl)
    · rename_i e; rw [e] at hok; exact False.elim hok
    · rename_i e; rw [e] at hok; exact False.elim hok
/-- the text that is searched: "purse" and a dotted tail of figures -/
def hostS (cs : List Nat) : Str := ⟨(hostL cs).toArray⟩
theorem hostS_size (cs : List Nat) : (hostS cs).cps.size = 5 + 2 * cs.length := by
  show (hostL cs).toArray.size = _
  rw [List.size_toArray, hostL_len]
abbrev spanTup (b e : Nat) : Obj := { cls := .type "tuple", data := .seq #[.int (b : Int) 0, .int (e : Int) 0] }
abbrev matObj (x : Str) (t : Tok) (lim : Nat) (T : Addr) : Obj := { cls := .type "re.Match", data := .fields #[.str x t, .ref 50, .int 0 0, .int (lim : Int) 0, .int (-1) 0, .ref T] }
theorem call_search_none {cs : List Nat} {t : Tok} {Q : Value → Shared → Prop} (h0 : cs = []) (h50 : s.heap.get? 50 = some patObj) (h49 : s.heap.get? 49 = some codeTup) (h : Q .none s) :
    wpAny (model prog w) A (call (.builtin "re.Pattern.search") [.ref 50, .str (hostS cs) t]) Q E s := by
  refine wpAny_call_entry slot_search ⟨_, h50, rfl⟩ entry_search ?_ (args_search _ _)
  obtain ⟨N, hN, ho⟩ := rx_none h0
  unfold Builtin.«re.Pattern.search»
  refine wpAny_bind (wp_target h50 h49 (by rw [hostS_size, h0]; decide) ?_)
  unfold reAnswer
  generalize hm : Sre.forSearch rxCode (hostL cs).toArray 0 0 (hostL cs).toArray.size false = m at ho
  show wpAny _ _ (reRunToEnd (Sre.forSearch rxCode (hostL cs).toArray 0 0 (hostL cs).toArray.size false) >>= _) _ _ _
  rw [hm]
  generalize hm' : Sre.M.runFor N m = m' at ho
  refine wpAny_bind (wp_toEnd (m := m) hN (by rw [hm', ho]; rfl) (fun r hr => ?_) (by rw [hm', ho]; trivial))
  rw [hm', ho] at hr
  replace hr : r = none := hr
  subst hr
  exact wpAny_pure ⟨_, rfl, h⟩
theorem call_search_some {cs : List Nat} {t : Tok} {Q : Value → Shared → Prop} (hok : RxOk cs) (h1 : 1 ≤ cs.length) (h50 : s.heap.get? 50 = some patObj) (h49 : s.heap.get? 49 = some codeTup)
    (h : Q (.ref (s.heap.objs.size + 1)) { s with heap := (s.heap.push (spanTup (5 + 2 * (cs.length - 1)) (5 + 2 * cs.length))).push (matObj (hostS cs) t (5 + 2 * cs.length) s.heap.objs.size) }) :
    wpAny (model prog w) A (call (.builtin "re.Pattern.search") [.ref 50, .str (hostS cs) t]) Q E s := by
  refine wpAny_call_entry slot_search ⟨_, h50, rfl⟩ entry_search ?_ (args_search _ _)
  obtain ⟨N, hN, hf⟩ := rx_found hok h1
  have hl := hok.len
  unfold Builtin.«re.Pattern.search»
  refine wpAny_bind (wp_target h50 h49 (by rw [hostS_size]; omega) ?_)
  unfold reAnswer
  generalize hm : Sre.forSearch rxCode (hostL cs).toArray 0 0 (hostL cs).toArray.size false = m at hf
  show wpAny _ _ (reRunToEnd (Sre.forSearch rxCode (hostL cs).toArray 0 0 (hostL cs).toArray.size false) >>= _) _ _ _
  rw [hm]
  generalize hm' : Sre.M.runFor N m = m' at hf
  refine wpAny_bind (wp_toEnd (m := m) hN (by rw [hm', hf.o]; rfl) (fun r hr => ?_) (by rw [hm', hf.o]; trivial))
  rw [hm', hf.o] at hr
  replace hr : r = some m' := hr
  subst hr
  show wpAny _ _ (reNewMatch (.ref 50) (.str (hostS cs) t) 0 0 (hostS cs).cps.size m' >>= fun r => ret r) _ _ _
  refine wpAny_bind ?_
  unfold reNewMatch
  simp only [List.range_zero, List.flatMap_nil, List.any_nil, Bool.false_eq_true, if_false, hf.st, hf.hd, hf.li, hostS_size]
  have e : (hostL cs).toArray.size = 5 + 2 * cs.length := hostS_size cs
  rw [e]
  refine wpAny_bind (wpAny_newTuple ?_)
  refine wpAny_newObj_type ?_
  rw [Heap.size_push]
  exact wpAny_pure ⟨_, rfl, h⟩
theorem call_group {cs : List Nat} {t u : Tok} {lim b e : Nat} {M T : Addr} {Q : Value → Shared → Prop} (h0 : (hostS cs).cps.size ≤ 1000000) (hM : s.heap.get? M = some (matObj (hostS cs) t lim T)) (hT : s.heap.get? T = some (spanTup b e))
    (h : ∀ t' tk', Q (.str ⟨(hostS cs).cps.extract b e⟩ t') { s with toks := tk' }) :
    wpAny (model prog w) A (call (.builtin "re.Match.group") [.ref M, .int 0 u]) Q E s := by
  refine wpAny_call_entry slot_group ⟨_, hM, rfl⟩ entry_group ?_ (args_group _ _)
  unfold Builtin.«re.Match.group»
  wp_walk using wpAny_loadPart' hM, wpAny_loadPart' hT
  have sp : Array.map reRawOf ((some #[Value.int (b : Int) 0, Value.int (e : Int) 0]).getD #[]) = #[(b : Int), (e : Int)] := by simp [reRawOf]
  rw [sp]
  rw [if_neg (by simp)]
  wp_walk
  rw [if_neg (by show ¬ ((hostS cs).cps.extract _ _).size > sizeLine; rw [Array.size_extract, sizeLine_eq]; omega)]
  wp_walk
  exact ⟨_, rfl, h _ _⟩
theorem call_span {cs : List Nat} {t u : Tok} {lim b e : Nat} {M T : Addr} {Q : Value → Shared → Prop} (hM : s.heap.get? M = some (matObj (hostS cs) t lim T)) (hT : s.heap.get? T = some (spanTup b e))
    (h : ∀ t1 t2 tk', Q (.ref s.heap.objs.size) { s with heap := s.heap.push (tup2 b e t1 t2), toks := tk' }) :
    wpAny (model prog w) A (call (.builtin "re.Match.span") [.ref M, .int 0 u]) Q E s := by
  refine wpAny_call_entry slot_span ⟨_, hM, rfl⟩ entry_span ?_ (args_span _ _)
  unfold Builtin.«re.Match.span»
  wp_walk using wpAny_loadPart' hM, wpAny_loadPart' hT
  have sp : Array.map reRawOf ((some #[Value.int (b : Int) 0, Value.int (e : Int) 0]).getD #[]) = #[(b : Int), (e : Int)] := by simp [reRawOf]
  rw [sp]
  exact ⟨_, rfl, h _ _ _⟩
end
end Mine
end

section
open PySem PySem.W PyProof.Rows PySem.Calls
open Sem (wp)
set_option Elab.async false
set_option maxRecDepth 100000
set_option maxHeartbeats 1000000
set_option linter.unusedVariables false
namespace Mine
theorem slot_mga : Slot "re.Match" "__getattribute__" "object.__getattribute__" :=
  .of (owner := "object") (n := "__getattribute__") (by rw [typeLookup_type, builtinLookup_eq_fast]; kernel_rfl) (by decide +kernel) (by decide +kernel) (by decide +kernel)
    (by first | exact .inl (by decide +kernel) | exact .inr (by decide +kernel)) (by rw [isSubtype_type]; kernel_rfl)
theorem lk_string : typeLookup (.type "re.Match") "string" = pure (some (.builtin "re.Match.string")) := by rw [typeLookup_type, builtinLookup_eq_fast]; kernel_rfl
theorem sub_match : isSubtype (.type "re.Match") (.type "re.Match") = pure true := by rw [isSubtype_type]; kernel_rfl
theorem type_string : typeOf (.builtin "re.Match.string") = pure (.type "member_descriptor") := by show builtinType _ = _; rw [builtinType_eq_fast]; kernel_rfl
theorem entry_string : entryFor table "re.Match.string" = some Builtin.«re.Match.string» := entryFor_of_tree (by kernel_rfl)
theorem owner_string : (".".intercalate ("re.Match.string".cutAt '.').dropLast) = "re.Match" := by
  have e0 : "re.Match.string".cutAt '.' = ["re", "Match", "string"] := by first | rfl | decide +kernel
  rw [e0]; decide +kernel
theorem slot_md_get : Slot "member_descriptor" "__get__" "member_descriptor.__get__" :=
  .of (owner := "member_descriptor") (n := "__get__") (by rw [typeLookup_type, builtinLookup_eq_fast]; kernel_rfl) (by decide +kernel) (by decide +kernel) (by decide +kernel)
    (by first | exact .inl (by decide +kernel) | exact .inr (by decide +kernel)) (by rw [isSubtype_type]; kernel_rfl)
theorem slot_md_set : Slot "member_descriptor" "__set__" "member_descriptor.__set__" :=
  .of (owner := "member_descriptor") (n := "__set__") (by rw [typeLookup_type, builtinLookup_eq_fast]; kernel_rfl) (by decide +kernel) (by decide +kernel) (by decide +kernel)
    (by first | exact .inl (by decide +kernel) | exact .inr (by decide +kernel)) (by rw [isSubtype_type]; kernel_rfl)
theorem entry_md_get : entryFor table "member_descriptor.__get__" = some Builtin.«member_descriptor.__get__» := entryFor_of_tree (by kernel_rfl)
theorem args_md_get (a b c : Value) : argsOk "member_descriptor.__get__" ⟨[a, b, c], []⟩ := by unfold argsOk; kernel_rfl
section
variable {prog : Program} {w : World} {A : Around} {E : Value → Shared → Prop} {h : Heap} {g : Array GenState} {d : Drawn} {t : Nat} {os : OsState} {a : Addr} {o : Obj} {vs : Array Value} {a0 : Value}
theorem str_get {R : Result → Shared → Prop} (hx : h.get? a = some o) (hc : o.cls = .type "re.Match") (hd : o.data = .fields vs) (h0 : vs[0]? = some a0) (hnd : (a0 == doubtfulMember) = false) (hq : R (.ok (.ret a0)) ⟨h, g, d, t, os⟩) :
    codeAny (model prog w) A (.call (.builtin "member_descriptor.__get__") ⟨[.builtin "re.Match.string", .ref a, .type "re.Match"], []⟩) R ⟨h, g, d, t, os⟩ := by
  have hT : (⟨h, g, d, t, os⟩ : Shared).TypeIs (.ref a) "re.Match" := ⟨_, hx, hc⟩
  have hT5 : (⟨h, g, d, t, os⟩ : Shared).TypeIs (.builtin "re.Match.string") "member_descriptor" := type_string
  have f8 : isSubtype (.type "re.Match") (.type (".".intercalate ("re.Match.string".cutAt '.').dropLast)) = pure true := by rw [owner_string]; exact sub_match
  refine codeAny_call_builtin slot_md_get.plain entry_md_get (slot_md_get.check _ _ _ _ _ _ _ _ hT5 (args_md_get _ _ _) ?_)
  repeat (any_goals (first | assumption | wp_step))
  refine ⟨Code.quiet_builtin _ (by decide +kernel), codeAny_builtin entry_string ?_⟩
  show wpAny _ _ (field (.ref a) 0 >>= fun v => ret v) _ _ _
  refine wpAny_bind (wpAny_field hx hd h0 ?_)
  exact wpAny_pure hq
theorem str_entry {tk : Tok} {Q : Fin → Shared → Prop} (hx : h.get? a = some o) (hc : o.cls = .type "re.Match") (hd : o.data = .fields vs) (h0 : vs[0]? = some a0) (hnd : (a0 == doubtfulMember) = false) (hq : Q (.done (.ret a0)) ⟨h, g, d, t, os⟩) :
    wpAny (model prog w) A (Builtin.«object.__getattribute__» ⟨[.ref a, .str "string" tk], []⟩) Q E ⟨h, g, d, t, os⟩ := by
  have hT : (⟨h, g, d, t, os⟩ : Shared).TypeIs (.ref a) "re.Match" := ⟨_, hx, hc⟩
  have hT5 : (⟨h, g, d, t, os⟩ : Shared).TypeIs (.builtin "re.Match.string") "member_descriptor" := type_string
  have f4 := lk_string
  have f5 := type_string
  have f6 := slot_md_get.lookup
  have f7 := slot_md_set.lookup
  repeat (any_goals (first | assumption | wp_step))
  refine str_get hx hc hd h0 hnd ?_
  repeat (any_goals (first | assumption | wp_step))
theorem str_call {tk : Tok} {R : Result → Shared → Prop} (hx : h.get? a = some o) (hc : o.cls = .type "re.Match") (hd : o.data = .fields vs) (h0 : vs[0]? = some a0) (hnd : (a0 == doubtfulMember) = false) (hq : R (.ok (.ret a0)) ⟨h, g, d, t, os⟩) :
    codeAny (model prog w) A (.call (.builtin "object.__getattribute__") ⟨[.ref a, .str "string" tk], []⟩) R ⟨h, g, d, t, os⟩ :=
  codeAny_call_builtin slot_mga.plain F.entry_object_getattribute (slot_mga.check _ _ _ _ _ _ _ _ (show (⟨h, g, d, t, os⟩ : Shared).TypeIs (.ref a) "re.Match" from ⟨_, hx, hc⟩) (F.args_object_getattribute_2 _ _) (str_entry hx hc hd h0 hnd hq))
theorem str_by {tk : Tok} {fill expr : Bool} {x : Str} {u : Tok} {Q : Value → Shared → Prop} (hx : h.get? a = some o) (hc : o.cls = .type "re.Match") (hd : o.data = .fields vs) (h0 : vs[0]? = some (.str x u))
    (hq : Q (.str x u) ⟨h, g, d, t, os⟩) : wpAny (model prog w) A (getAttrBy (.ref a) (.str "string" tk) fill expr) Q E ⟨h, g, d, t, os⟩ := by
  have hT : (⟨h, g, d, t, os⟩ : Shared).TypeIs (.ref a) "re.Match" := ⟨_, hx, hc⟩
  have f2 := slot_mga.lookup
  have f3 := slot_mga.bind (.ref a)
  have hx0 : (expr && onTheHeap (Value.builtin "object.__getattribute__")) = false := by cases expr <;> rfl
  repeat (any_goals (first | assumption | wp_step))
  refine str_call hx hc hd h0 (by first | rfl | decide | simp [doubtfulMember, rawInt]) ?_
  repeat (any_goals (first | assumption | wp_step))
theorem str_attr {expr : Bool} {x : Str} {u : Tok} {Q : Value → Shared → Prop} (hx : h.get? a = some o) (hc : o.cls = .type "re.Match") (hd : o.data = .fields vs) (h0 : vs[0]? = some (.str x u))
    (hq : Q (.str x u) ⟨h, g, d, t + 1, os⟩) : wpAny (model prog w) A (getAttr (.ref a) "string" expr) Q E ⟨h, g, d, t, os⟩ := by
  unfold getAttr
  repeat (any_goals (first | assumption | with_reducible apply str_by hx hc hd h0 | wp_step))
end
end Mine
end

section
open PySem PySem.W PyProof.Rows PySem.Calls
set_option Elab.async false
set_option maxRecDepth 100000
set_option linter.unusedVariables false
namespace Mine
section
variable {prog : Program} {w : World} {A : Around} {E : Value → Shared → Prop} {s : Shared} {h₀ : Heap} {L : Addr} {m : Str → Option Value} {news : List (Addr × Obj)}
/-- a match among what is kept -/
def MatAt (h : Heap) (cs : List Nat) (t : Tok) (lim b e : Nat) (M T : Addr) : Prop := h.get? M = some (matObj (hostS cs) t lim T) ∧ h.get? T = some (spanTup b e)
theorem MatAt.keeps {h h' : Heap} {cs : List Nat} {t : Tok} {lim b e : Nat} {M T : Addr} (x : MatAt h cs t lim b e M T) (k : ∀ b o, h.get? b = some o → h'.get? b = some o) : MatAt h' cs t lim b e M T := ⟨k _ _ x.1, k _ _ x.2⟩
theorem g_mspan {cs : List Nat} {t : Tok} {lim b e : Nat} {M T : Addr} {pl : Sem Bool} {Q : Value × List Value → Shared → Prop} (F : Fr h₀ L s.heap m) (x : MatAt h₀ cs t lim b e M T) (h : Q (.builtin "re.Match.span", [.ref M]) s) : wpAny (model prog w) A (getMethod (.ref M) "span" pl) Q E s :=
  getMethod_builtin ⟨_, F.keep _ _ x.1, rfl⟩ plain_mat slot_span type_span (fun a e => by cases e; exact ⟨_, F.keep _ _ x.1, rfl⟩) h
theorem g_span {cs : List Nat} {t u : Tok} {lim b e : Nat} {M T : Addr} {Q : Value → Shared → Prop} (F : Fr h₀ L s.heap m) (N : News h₀ L s.heap news) (x : MatAt h₀ cs t lim b e M T)
    (h : ∀ T' t1 t2 h' tk', Fr h₀ L h' m → News h₀ L h' ((T', tup2 b e t1 t2) :: news) → (∀ p ∈ news, p.1 < T') → Q (.ref T') { s with heap := h', toks := tk' }) : wpAny (model prog w) A (call (.builtin "re.Match.span") [.ref M, .int 0 u]) Q E s :=
  call_span (F.keep _ _ x.1) (F.keep _ _ x.2) fun t1 t2 tk' => h _ t1 t2 _ tk' (F.push _) (N.push F _) fun p hp => Heap.lt_size (N p hp).1
theorem g_mstring {cs : List Nat} {t : Tok} {lim b e : Nat} {M T : Addr} {ex : Bool} {Q : Value → Shared → Prop} (F : Fr h₀ L s.heap m) (x : MatAt h₀ cs t lim b e M T) (h : Q (.str (hostS cs) t) { s with toks := s.toks + 1 }) : wpAny (model prog w) A (getAttr (.ref M) "string" ex) Q E s := by
  obtain ⟨hp, g, d, tk, os⟩ := s
  exact str_attr (F.keep _ _ x.1) rfl rfl rfl h
theorem g_adds {x y : Str} {t u : Tok} {Q : Value → Shared → Prop} (h0 : Owe (x.length + y.length ≤ 1000000)) (h : ∀ t' tk, Q (.str (x ++ y) t') { s with toks := tk }) : wpAny (model prog w) A (binaryOp .Add (.str x t) (.str y u)) Q E s :=
  PyProof.Rows.add_str h (by rw [sizeLine_eq]; have := h0.out; lia)
end
def UmPost (cs : List Nat) (b e : Nat) (g : Heap) (r : Value) (h' : Heap) : Prop := ∃ t', r = .str (Txt.slice (hostS cs) none (some (b : Int)) ++ Txt.slice (hostS cs) (some (e : Int)) none) t'
theorem um_len {cs : List Nat} {x y : Str} (hl : cs.length ≤ 4) (hsz : (hostS cs).cps.size = 5 + 2 * cs.length) (h1 : x.length ≤ (hostS cs).length) (h2 : y.length ≤ (hostS cs).length) : x.length + y.length ≤ 1000000 := by
  have : (hostS cs).length = 5 + 2 * cs.length := hsz
  lia
end Mine
end

section
open PySem PySem.W PyProof.Rows PySem.Calls
set_option Elab.async false
set_option maxRecDepth 100000
set_option maxHeartbeats 8000000
namespace Mine
section
variable {w : World} {p : Program} {loose : List Str} {mean : ExcName → Option Value} {mg mb : Str → Option Value}
theorem fillUm : ∀ h : Heap, (Mine.hd.heap_39 w.params).In h → PySem.Challenge.rw_xg0080_01 = PySem.Challenge.rw_xg0080_01 := by k_fill; intro _ _; rfl
theorem um_con (cs : List Nat) (t : Tok) (lim b e : Nat) (M T : Addr) (hb : b ≤ e) (he : e ≤ 5 + 2 * cs.length) (hl : cs.length ≤ 4) : Con w p loose mean mg mb 45 [.ref M] 10 80 [] (fun h => MatAt h cs t lim b e M T) (UmPost cs b e) := by
  refine' con_of0 ?k6 ?k7 ?kd ?k9 ?kB ?c5 ?c2 ?c3 ?c4 ?_
  case k6 => k_is
  case k7 => k_is
  case kd => decide
  case k9 => exact rfl
  case kB => exact locs rfl
  case c5 => decide
  case c2 => exact rfl
  case c3 => exact rfl
  case c4 => exact rfl
  intro dp un gd outer A₀ base g L' h₁ s Q E B' F' N' X' T' hdp hun hM hret
  have hM2 : MatAt g cs t lim b e M T := hM
  clear hM
  have hsz := hostS_size cs
  (try k_fold)
  repeat' (
    first
    | (k_unfold; (try dsimp only)) | (k_end; wrow_close)
    | ((with_reducible show wpAny _ _ (binaryOp Operator.Add (Value.str _ _) (Value.str _ _)) _ _ _); (k_here; (with_reducible show wpAny _ _ (binaryOp Operator.Add (Value.str _ _) (Value.str _ _)) _ _ _); (refine g_adds ?_ ?_); rotate_left; intro t' tk'))
    | ((with_reducible show wpAny _ _ (getAttr (Value.ref _) _ _) _ _ _); (k_here; k_dflt (refine' g_mstring ?k1 ?k2 ?_; (case k1 => k_asm); (case k2 => assumption))))
    | ((with_reducible show wpAny _ _ (call (Value.builtin "re.Match.span") _ _) _ _ _); (k_here; k_dflt (refine' g_span ?k1 ?k2 ?k3 ?_; (case k1 => k_asm); (case k2 => k_asm); (case k3 => assumption)); intro T' t1' t2' h' tk' F' N' l1; (try k_lt l1)))
    | ((with_reducible show wpAny _ _ (getMethod (Value.ref _) _ _) _ _ _); (k_here; k_dflt (refine' g_mspan ?k1 ?k2 ?_; (case k1 => k_asm); (case k2 => assumption))))
    | walk1 | (dsimp only; walk1) | (leave1; walk_say "STEP leave1"; try dsimp only) | fail "no step")
  all_goals (first
    | exact ⟨um_len hl hsz (by assumption) (by assumption)⟩
    | exact hret _ _ _ (Fr.keep (by assumption)) ⟨_, rfl⟩
    | skip)
end
end Mine
end

section
open PySem PySem.W PyProof.Rows PySem.Calls
set_option Elab.async false
set_option maxRecDepth 100000
set_option linter.unusedVariables false
namespace Mine
theorem mat_nobool : typeLookup (.type "re.Match") "__bool__" = pure none := by rw [typeLookup_type, builtinLookup_eq_fast]; kernel_rfl
theorem mat_nolen : typeLookup (.type "re.Match") "__len__" = pure none := by rw [typeLookup_type, builtinLookup_eq_fast]; kernel_rfl
theorem look50 (w : World) : (Mine.hd.heap_39 w.params).lookup 50 = some patObj := rfl
theorem look49 (w : World) : (Mine.hd.heap_39 w.params).lookup 49 = some codeTup := rfl
section
variable {prog : Program} {w : World} {A : Around} {E : Value → Shared → Prop} {s : Shared} {h₀ : Heap} {L : Addr} {m : Str → Option Value} {news : List (Addr × Obj)}
theorem g_psearch {pl : Sem Bool} {Q : Value × List Value → Shared → Prop} (F : Fr h₀ L s.heap m) (X : (Mine.hd.heap_39 w.params).In h₀) (h : Q (.builtin "re.Pattern.search", [.ref 50]) s) : wpAny (model prog w) A (getMethod (.ref 50) "search" pl) Q E s :=
  getMethod_builtin ⟨_, (X.keeps F.keep) _ _ (look50 w), rfl⟩ plain_pat slot_search type_search (fun a e => by cases e; exact ⟨_, (X.keeps F.keep) _ _ (look50 w), rfl⟩) h
theorem g_search_none {cs : List Nat} {t : Tok} {Q : Value → Shared → Prop} (F : Fr h₀ L s.heap m) (X : (Mine.hd.heap_39 w.params).In h₀) (h0 : cs = []) (h : Q .none s) : wpAny (model prog w) A (call (.builtin "re.Pattern.search") [.ref 50, .str (hostS cs) t]) Q E s :=
  call_search_none h0 ((X.keeps F.keep) _ _ (look50 w)) ((X.keeps F.keep) _ _ (look49 w)) h
theorem g_search {cs : List Nat} {t : Tok} {Q : Value → Shared → Prop} (F : Fr h₀ L s.heap m) (X : (Mine.hd.heap_39 w.params).In h₀) (N : News h₀ L s.heap news) (hok : RxOk cs) (h1 : 1 ≤ cs.length)
    (h : ∀ M T h', Fr h₀ L h' m → News h₀ L h' ((M, matObj (hostS cs) t (5 + 2 * cs.length) T) :: (T, spanTup (5 + 2 * (cs.length - 1)) (5 + 2 * cs.length)) :: news) → (∀ p ∈ news, p.1 < T) → T < M → Q (.ref M) { s with heap := h' }) :
    wpAny (model prog w) A (call (.builtin "re.Pattern.search") [.ref 50, .str (hostS cs) t]) Q E s := by
  refine call_search_some hok h1 ((X.keeps F.keep) _ _ (look50 w)) ((X.keeps F.keep) _ _ (look49 w)) ?_
  have F1 := F.push (spanTup (5 + 2 * (cs.length - 1)) (5 + 2 * cs.length))
  have N1 := N.push F (spanTup (5 + 2 * (cs.length - 1)) (5 + 2 * cs.length))
  have N2 := N1.push F1 (matObj (hostS cs) t (5 + 2 * cs.length) s.heap.objs.size)
  rw [Heap.size_push] at N2
  exact h _ _ _ (F1.push _) N2 (fun p hp => Heap.lt_size (N p hp).1) (Nat.lt_succ_self _)
theorem g_truthyM {M : Addr} {o : Obj} {Q : Bool → Shared → Prop} (N : News h₀ L s.heap news) (hm : (M, o) ∈ news) (hc : o.cls = .type "re.Match") (h : Q true s) : wpAny (model prog w) A (truthy (.ref M)) Q E s := by
  have hT : s.TypeIs (.ref M) "re.Match" := ⟨o, (N _ hm).1, hc⟩
  unfold truthy
  first
    | refine wpAny_bind (wpAny_callSpecial?_none (name := Str.ofString "__bool__") hT mat_nobool ?_)
    | refine wpAny_bind (wpAny_pure (wpAny_bind (wpAny_callSpecial?_none (name := Str.ofString "__bool__") hT mat_nobool ?_)))
  first
    | refine wpAny_bind (wpAny_specialOf (name := Str.ofString "__len__") hT mat_nolen ?_)
    | refine wpAny_bind (wpAny_pure (wpAny_bind (wpAny_specialOf (name := Str.ofString "__len__") hT mat_nolen ?_)))
  exact wpAny_pure h
end
def HdnPost (cs : List Nat) (g : Heap) (r : Value) (h' : Heap) : Prop := r = .bool (decide (cs = []))
theorem hd_a {cs : List Nat} (h0 : cs = []) (h : (hostS cs == Str.ofString "") = true) : False := by subst h0; exact absurd h (by decide)
theorem hd_b {cs : List Nat} (h0 : cs = []) (h : (Txt.item (hostS cs) 0 == Str.ofString ".") = true) : False := by subst h0; exact absurd h (by decide)
theorem hd_c {cs : List Nat} (h0 : cs = []) (h : (Txt.item (hostS cs) (-1) == Str.ofString ".") = true) : False := by subst h0; exact absurd h (by decide)
end Mine
end

section
open PySem PySem.W PyProof.Rows PySem.Calls
set_option Elab.async false
set_option maxRecDepth 100000
set_option maxHeartbeats 8000000
namespace Mine
section
variable {w : World} {p : Program} {loose : List Str} {mean : ExcName → Option Value} {mg mb : Str → Option Value}
theorem fillHn : ∀ h : Heap, (Mine.hd.heap_39 w.params).In h → PySem.Challenge.rw_xg0080_01 = PySem.Challenge.rw_xg0080_01 := by k_fill; intro _ _; rfl
theorem hn_con (cs : List Nat) (t : Tok) (hok : RxOk cs) : Con w p loose mean mg mb 57 [.str (hostS cs) t] 10 80 [] (fun _ => True) (HdnPost cs) := by
  refine' con_of0 ?k6 ?k7 ?kd ?k9 ?kB ?c5 ?c2 ?c3 ?c4 ?_
  case k6 => k_is
  case k7 => k_is
  case kd => decide
  case k9 => exact rfl
  case kB => exact locs rfl
  case c5 => decide
  case c2 => exact rfl
  case c3 => exact rfl
  case c4 => exact rfl
  intro dp un gd outer A₀ base g L' h₁ s Q E B' F' N' X' T' hdp hun _ hret
  have hsz := hostS_size cs
  by_cases h0 : cs = []
  · (try k_fold)
    repeat' (
      first
      | (k_unfold; (try dsimp only)) | (k_end; wrow_close)
      | ((with_reducible show wpAny _ _ (truthy (Value.ref _)) _ _ _); (k_here; k_dflt (refine' g_truthyM ?k1 ?k2 ?k3 ?_; (case k1 => k_asm); (case k2 => k_mem); (case k3 => exact rfl))))
      | ((with_reducible show wpAny _ _ (call (Value.builtin "re.Pattern.search") _ _) _ _ _); (k_here; k_dflt (refine' g_search ?k1 ?k2 ?k3 ?k4 ?k5 ?_; (case k1 => k_asm); (case k2 => k_asm); (case k3 => k_asm); (case k4 => assumption); (case k5 => assumption)); intro M' T' h' F' N' l1 l2; (try k_lt l1); (try k_lt2 l2)))
      | ((with_reducible show wpAny _ _ (call (Value.builtin "re.Pattern.search") _ _) _ _ _); (k_here; k_dflt (refine' g_search_none ?k1 ?k2 ?k3 ?_; (case k1 => k_asm); (case k2 => k_asm); (case k3 => assumption))))
      | ((with_reducible show wpAny _ _ (getMethod (Value.ref _) _ _) _ _ _); (k_here; k_dflt (refine' g_psearch ?k1 ?k2 ?_; (case k1 => k_asm); (case k2 => k_asm))))
      | walk1 | (dsimp only; walk1) | (leave1; walk_say "STEP leave1"; try dsimp only) | fail "no step")
    all_goals (first
      | exact (hd_a h0 (by assumption)).elim
      | exact (hd_b h0 (by assumption)).elim
      | exact (hd_c h0 (by assumption)).elim
      | exact hret _ _ _ (Fr.keep (by assumption)) (by simp [HdnPost, h0])
      | skip)
  · have h1 : 1 ≤ cs.length := by cases cs with | nil => exact absurd rfl h0 | cons _ _ => simp
    (try k_fold)
    repeat' (
      first
      | (k_unfold; (try dsimp only)) | (k_end; wrow_close)
      | ((with_reducible show wpAny _ _ (truthy (Value.ref _)) _ _ _); (k_here; k_dflt (refine' g_truthyM ?k1 ?k2 ?k3 ?_; (case k1 => k_asm); (case k2 => k_mem); (case k3 => exact rfl))))
      | ((with_reducible show wpAny _ _ (call (Value.builtin "re.Pattern.search") _ _) _ _ _); (k_here; k_dflt (refine' g_search ?k1 ?k2 ?k3 ?k4 ?k5 ?_; (case k1 => k_asm); (case k2 => k_asm); (case k3 => k_asm); (case k4 => assumption); (case k5 => assumption)); intro M' T' h' F' N' l1 l2; (try k_lt l1); (try k_lt2 l2)))
      | ((with_reducible show wpAny _ _ (call (Value.builtin "re.Pattern.search") _ _) _ _ _); (k_here; k_dflt (refine' g_search_none ?k1 ?k2 ?k3 ?_; (case k1 => k_asm); (case k2 => k_asm); (case k3 => assumption))))
      | ((with_reducible show wpAny _ _ (getMethod (Value.ref _) _ _) _ _ _); (k_here; k_dflt (refine' g_psearch ?k1 ?k2 ?_; (case k1 => k_asm); (case k2 => k_asm))))
      | walk1 | (dsimp only; walk1) | (leave1; walk_say "STEP leave1"; try dsimp only) | fail "no step")
    all_goals (exact hret _ _ _ (Fr.keep (by assumption)) (by simp [HdnPost, h0]))
end
end Mine
end

section
open PySem PySem.W PyProof.Rows PySem.Calls
set_option Elab.async false
set_option maxRecDepth 100000
set_option linter.unusedVariables false
namespace Mine
section
variable {w : World} {p : Program} {loose : List Str} {mean : ExcName → Option Value} {mg mb : Str → Option Value}
  {dp un : Nat} {gd : Option (List Code)} {cn : Str} {cs : Scope} {ad : Addr} {ccd : Value} {cl : List (Str × Addr)} {outer : List Env} {A₀ : Around} {base h₀ : Heap} {L : Addr} {m : Str → Option Value} {news : List (Addr × Obj)} {s : Shared} {Q E : Value → Shared → Prop}
  {f : Addr} {vs : List Value} {d u : Nat} {Pre : Heap → Prop} {Post : Heap → Value → Heap → Prop}
/-- a contract that keeps all, used -/
theorem con_use0 (C : Con w p loose mean mg mb f vs d u [] Pre Post) (B : Below A₀ base outer h₀) (F : Fr h₀ L s.heap m) (X : (Mine.hd.heap_39 w.params).In h₀) (N : News h₀ L s.heap news) (T : Top p loose mean mg mb h₀) (hk : cs.kind = .function) (hd : dp + d < recursionLimit) (hu : un + u < cLine) (hp : Pre s.heap)
    (h : ∀ r h' tk', Fr h₀ L h' m → News h₀ L h' news → Post s.heap r h' → Q r { s with heap := h', toks := tk' }) :
    wpAny (model PySem.Challenge.rw_xg0080_01.row.prog w) (ktrTop dp un gd cn cs L ad ccd cl outer) (call (.ref f) vs) Q E s := by
  refine C dp un gd cn cs ad ccd cl outer A₀ base h₀ L m s Q E B F X T hk hd hu (fun _ h => nomatch h) hp fun v h' tk' hkeep hpost => ?_
  have hkk : ∀ b o, s.heap.get? b = some o → h'.get? b = some o := fun b o e => hkeep b o (fun h => nomatch h) e
  exact h v h' tk' (F.keeps hkk) (fun p hp => ⟨hkk _ _ (N p hp).1, (N p hp).2⟩) hpost
theorem news_add {h' : Heap} {l : Addr} {o : Obj} (F : Fr h₀ L s.heap m) (hn : s.heap.get? l = none) (N : News h₀ L h' news) (e : h'.get? l = some o) : News h₀ L h' ((l, o) :: news) := fun q hq => by
  rcases List.mem_cons.mp hq with rfl | hq
  · exact ⟨e, (fresh_of F hn).2, (fresh_of F hn).1⟩
  · exact N q hq
theorem use_tot {l : Addr} {vs : List Value} {ns : List Int} (B : Below A₀ base outer h₀) (F : Fr h₀ L s.heap m) (X : (Mine.hd.heap_39 w.params).In h₀) (N : News h₀ L s.heap news) (T : Top p loose mean mg mb h₀) (hk : cs.kind = .function) (hl : h₀.IsList l vs.toArray) (hi : IntsAre vs ns) (h0 : Owe (ns.length ≤ 63 ∧ dp + 10 < recursionLimit ∧ un + 80 < cLine))
    (h : ∀ l' lv ts ep h' tk', IntsAre lv ts → ts.length = 4 → (∀ t ∈ ts, 0 ≤ t ∧ t ≤ 100000000) → Fr h₀ L h' m → News h₀ L h' ((l', listOf (List.toArray lv) ep) :: news) → (∀ p ∈ news, p.1 ≠ l') → Q (.ref l') { s with heap := h', toks := tk' }) :
    wpAny (model PySem.Challenge.rw_xg0080_01.row.prog w) (ktrTop dp un gd cn cs L ad ccd cl outer) (call (.ref 165) [.ref l]) Q E s := by
  refine con_use0 (tt_con l vs ns hi h0.out.1) B F X N T hk h0.out.2.1 h0.out.2.2 (hl.at fun o e => F.keep _ _ e) fun r h' tk' F' N' hp => ?_
  obtain ⟨l', lv, ts, ep, rfl, hn, he, hI, h4, hb⟩ := hp
  exact h l' lv ts ep h' tk' hI h4 hb F' (news_add F hn N' he) (ne_of_fresh N hn)
theorem use_ways {l : Addr} {lv : List Value} {ep : Nat} {cc : List Int} (B : Below A₀ base outer h₀) (F : Fr h₀ L s.heap m) (X : (Mine.hd.heap_39 w.params).In h₀) (N : News h₀ L s.heap news) (T : Top p loose mean mg mb h₀) (hk : cs.kind = .function) (hm : (l, listOf (List.toArray lv) ep) ∈ news) (hi : IntsAre lv cc) (h0 : Owe (WaysOk cc ∧ dp + 10 < recursionLimit ∧ un + 80 < cLine))
    (h : ∀ l' lv' ep' h' tk', IntsAre lv' (waysOf cc) → Fr h₀ L h' m → News h₀ L h' ((l', listOf (List.toArray lv') ep') :: news) → (∀ p ∈ news, p.1 ≠ l') → Q (.ref l') { s with heap := h', toks := tk' }) :
    wpAny (model PySem.Challenge.rw_xg0080_01.row.prog w) (ktrTop dp un gd cn cs L ad ccd cl outer) (call (.ref 170) [.ref l]) Q E s := by
  refine con_use0 (wy_con l lv cc hi h0.out.1) B F X N T hk h0.out.2.1 h0.out.2.2 ⟨_, (N _ hm).1, rfl, _, rfl⟩ fun r h' tk' F' N' hp => ?_
  obtain ⟨l', lv', ep', rfl, hn, he, hI⟩ := hp
  exact h l' lv' ep' h' tk' hI F' (news_add F hn N' he) (ne_of_fresh N hn)
theorem use_lu {l : Addr} {lv : List Value} {cc : List Int} (B : Below A₀ base outer h₀) (F : Fr h₀ L s.heap m) (X : (Mine.hd.heap_39 w.params).In h₀) (N : News h₀ L s.heap news) (T : Top p loose mean mg mb h₀) (hk : cs.kind = .function) (hm : (l, tupOf lv.toArray) ∈ news) (hi : IntsAre lv cc) (h0 : Owe (LuOk cc ∧ dp + 10 < recursionLimit ∧ un + 80 < cLine))
    (h : ∀ t h' tk', Fr h₀ L h' m → News h₀ L h' news → Q (.int (luRun 0 0 cc) t) { s with heap := h', toks := tk' }) :
    wpAny (model PySem.Challenge.rw_xg0080_01.row.prog w) (ktrTop dp un gd cn cs L ad ccd cl outer) (call (.ref 177) [.ref l]) Q E s := by
  refine con_use0 (lu_con l lv cc hi h0.out.1) B F X N T hk h0.out.2.1 h0.out.2.2 ⟨_, (N _ hm).1, rfl, _, rfl⟩ fun r h' tk' F' N' hp => ?_
  obtain ⟨t, rfl⟩ := hp
  exact h t h' tk' F' N'
theorem use_hdn {hs : List Nat} {t : Tok} (B : Below A₀ base outer h₀) (F : Fr h₀ L s.heap m) (X : (Mine.hd.heap_39 w.params).In h₀) (N : News h₀ L s.heap news) (T : Top p loose mean mg mb h₀) (hk : cs.kind = .function) (h0 : Owe (RxOk hs ∧ dp + 10 < recursionLimit ∧ un + 80 < cLine))
    (h : ∀ h' tk', Fr h₀ L h' m → News h₀ L h' news → Q (.bool (decide (hs = []))) { s with heap := h', toks := tk' }) :
    wpAny (model PySem.Challenge.rw_xg0080_01.row.prog w) (ktrTop dp un gd cn cs L ad ccd cl outer) (call (.ref 57) [.str (hostS hs) t]) Q E s := by
  refine con_use0 (hn_con hs t h0.out.1) B F X N T hk h0.out.2.1 h0.out.2.2 trivial fun r h' tk' F' N' hp => ?_
  have hp' : r = .bool (decide (hs = [])) := hp
  subst hp'
  exact h h' tk' F' N'
theorem use_um {hs : List Nat} {t : Tok} {lim b e : Nat} {M T' : Addr} (B : Below A₀ base outer h₀) (F : Fr h₀ L s.heap m) (X : (Mine.hd.heap_39 w.params).In h₀) (N : News h₀ L s.heap news) (T : Top p loose mean mg mb h₀) (hk : cs.kind = .function) (hm1 : (M, matObj (hostS hs) t lim T') ∈ news) (hm2 : (T', spanTup b e) ∈ news)
    (h0 : Owe (b ≤ e ∧ e ≤ 5 + 2 * hs.length ∧ hs.length ≤ 4 ∧ dp + 10 < recursionLimit ∧ un + 80 < cLine))
    (h : ∀ t' h' tk', Fr h₀ L h' m → News h₀ L h' news → Q (.str (Txt.slice (hostS hs) none (some (b : Int)) ++ Txt.slice (hostS hs) (some (e : Int)) none) t') { s with heap := h', toks := tk' }) :
    wpAny (model PySem.Challenge.rw_xg0080_01.row.prog w) (ktrTop dp un gd cn cs L ad ccd cl outer) (call (.ref 45) [.ref M]) Q E s := by
  obtain ⟨a1, a2, a3, a4, a5⟩ := h0.out
  refine con_use0 (um_con hs t lim b e M T' a1 a2 a3) B F X N T hk a4 a5 ⟨(N _ hm1).1, (N _ hm2).1⟩ fun r h' tk' F' N' hp => ?_
  obtain ⟨t', rfl⟩ := hp
  exact h t' h' tk' F' N'
theorem use_wi {ws : Str} {t : Tok} (B : Below A₀ base outer h₀) (F : Fr h₀ L s.heap m) (X : (Mine.hd.heap_39 w.params).In h₀) (N : News h₀ L s.heap news) (T : Top p loose mean mg mb h₀) (hk : cs.kind = .function) (h0 : Owe (WsOk ws ∧ dp + 10 < recursionLimit ∧ un + 80 < cLine))
    (h : ∀ (x dx D TT : Addr) (lv : List Value) (sb : Bool) (t1 t2 t3 t4 t5 tn tt tb : Tok) (k : Nat) h' tk', IntsAre lv (wsFin ws).cnt → @LT.lt Nat _ dx x → @LT.lt Nat _ x TT → @LT.lt Nat _ TT D → Fr h₀ L h' m →
      News h₀ L h' ((x, instObj 154 dx) :: (dx, wiDict w ws t (wsFin ws) D sb t1 t2 t3 t4 t5 tn tt k) :: (D, tupOf #[.ref TT, .int (wsFin ws).b tb]) :: (TT, tupOf lv.toArray) :: news) → (∀ p ∈ news, p.1 ≠ x) → (∀ p ∈ news, p.1 ≠ dx) → (∀ p ∈ news, p.1 ≠ D) → (∀ p ∈ news, p.1 ≠ TT) → Q (.ref x) { s with heap := h', toks := tk' }) :
    wpAny (model PySem.Challenge.rw_xg0080_01.row.prog w) (ktrTop dp un gd cn cs L ad ccd cl outer) (call (.ref 154) [.str ws t]) Q E s := by
  refine con_use0 (wi_con ws t h0.out.1) B F X N T hk h0.out.2.1 h0.out.2.2 trivial fun r h' tk' F' N' hp => ?_
  obtain ⟨x, dx, D, TT, lv, sb, t1, t2, t3, t4, t5, tn, tt, tb, k, rfl, f1, f2, f3, f4, l1, l2, l3, g1, g2, g3, g4, hI⟩ := hp
  exact h x dx D TT lv sb t1 t2 t3 t4 t5 tn tt tb k h' tk' hI l1 l2 l3 F' (news_add F f1 (news_add F f2 (news_add F f3 (news_add F f4 N' g4) g3) g2) g1) (ne_of_fresh N f1) (ne_of_fresh N f2) (ne_of_fresh N f3) (ne_of_fresh N f4)
theorem use_il {ws : Str} {t ta : Tok} {x dx D TT : Addr} {lv : List Value} {sb : Bool} {t1 t2 t3 t4 t5 tn tt tb : Tok} {k : Nat} (B : Below A₀ base outer h₀) (F : Fr h₀ L s.heap m) (X : (Mine.hd.heap_39 w.params).In h₀) (N : News h₀ L s.heap news) (T : Top p loose mean mg mb h₀) (hk : cs.kind = .function)
    (q1 : (x, instObj 154 dx) ∈ news) (q2 : (dx, wiDict w ws t (wsFin ws) D sb t1 t2 t3 t4 t5 tn tt k) ∈ news) (q3 : (D, tupOf #[.ref TT, .int (wsFin ws).b tb]) ∈ news) (q4 : (TT, tupOf lv.toArray) ∈ news) (hI : IntsAre lv (wsFin ws).cnt) (l1 : @LT.lt Nat _ dx x) (l2 : @LT.lt Nat _ x TT) (l3 : @LT.lt Nat _ TT D)
    (h0 : Owe (WsOk ws ∧ dp + 10 < recursionLimit ∧ un + 80 < cLine))
    (h : ∀ t' h' tk', Fr h₀ L h' m → News h₀ L h' news → Q (.int (wsLevel ws) t') { s with heap := h', toks := tk' }) :
    wpAny (model PySem.Challenge.rw_xg0080_01.row.prog w) (ktrTop dp un gd cn cs L ad ccd cl outer) (call (.ref 123) [.ref x, .int 1 ta]) Q E s := by
  obtain ⟨o1, o2, o3⟩ := h0.out
  have z : ∀ b ∈ [x, dx, D, TT], ∃ o, (b, o) ∈ news := by
    intro b hb
    simp only [List.mem_cons, List.not_mem_nil, or_false] at hb
    rcases hb with rfl | rfl | rfl | rfl
    · exact ⟨_, q1⟩
    · exact ⟨_, q2⟩
    · exact ⟨_, q3⟩
    · exact ⟨_, q4⟩
  refine il_con ws t ta x dx D TT lv sb t1 t2 t3 t4 t5 tn tt tb k hI o1 l1 l2 l3 dp un gd cn cs ad ccd cl outer A₀ base h₀ L m s Q E B F X T hk o2 o3 (fun b hb => by obtain ⟨o, ho⟩ := z b hb; exact ⟨(N _ ho).2.2, (N _ ho).2.1⟩) ⟨(N _ q1).1, (N _ q2).1, (N _ q3).1, (N _ q4).1⟩ fun r h' tk' hkeep hp => ?_
  obtain ⟨hW, t', rfl⟩ := hp
  have hkk : ∀ b o, s.heap.get? b = some o → h'.get? b = some o := fun b o e => by
    by_cases hb : b ∈ [x, dx, D, TT]
    · rw [hW b hb]; exact e
    · exact hkeep b o hb e
  exact h t' h' tk' (F.keeps hkk) (fun p hp => ⟨hkk _ _ (N p hp).1, (N p hp).2⟩)
end
end Mine
end

section
open PySem PySem.W PyProof.Rows PySem.Calls
set_option Elab.async false
set_option maxRecDepth 100000
set_option linter.unusedVariables false
namespace Mine
section
variable {w : World} {p : Program} {loose : List Str} {mean : ExcName → Option Value} {mg mb : Str → Option Value}
  {dp un : Nat} {gd : Option (List Code)} {cn : Str} {cs : Scope} {ad : Addr} {ccd : Value} {cl : List (Str × Addr)} {outer : List Env} {A₀ : Around} {base h₀ : Heap} {L : Addr} {m : Str → Option Value} {news : List (Addr × Obj)} {s : Shared} {Q E : Value → Shared → Prop}
theorem use_dp_hit {a b : Int} {ta tb : Tok} {c7 c8 : Addr} (B : Below A₀ base outer h₀) (F : Fr h₀ L s.heap m) (X : (Mine.hd.heap_39 w.params).In h₀) (N : News h₀ L s.heap news) (T : Top p loose mean mg mb h₀) (hk : cs.kind = .function)
    (q7 : (73, tab1 49 4 c7) ∈ news) (hc7 : s.heap.CodeRec (.ref c7) q73) (q8 : (80, tab1 64 4 c8) ∈ news) (hc8 : s.heap.CodeRec (.ref c8) q80) (h0 : Owe (DpOk a b ∧ dp + 30 < recursionLimit ∧ un + 400 < cLine))
    (h : ∀ T' q r t1 t2 h' tk', q = a / b → r = a % b → Fr h₀ L h' m → News h₀ L h' ((T', tup2 q r t1 t2) :: news) → (∀ p ∈ news, p.1 ≠ T') → Q (.ref T') { s with heap := h', toks := tk' }) :
    wpAny (model PySem.Challenge.rw_xg0080_01.row.prog w) (ktrTop dp un gd cn cs L ad ccd cl outer) (call (.ref 92) [.int a ta, .int b tb]) Q E s := by
  obtain ⟨o1, o2, o3⟩ := h0.out
  have g7 := (N _ q7).1
  have g8 := (N _ q8).1
  refine dp_con a b ta tb o1 dp un gd cn cs ad ccd cl outer A₀ base h₀ L m s Q E B F X T hk o2 o3 (fun x hx => ?_) ⟨⟨c7, g7, hc7⟩, .inr ⟨c8, g8, hc8⟩⟩ fun r h' tk' hkeep hp => ?_
  · rcases List.mem_cons.mp hx with rfl | hx
    · exact ⟨(N _ q7).2.2, (N _ q7).2.1⟩
    · rw [List.mem_singleton.mp hx]; exact ⟨(N _ q8).2.2, (N _ q8).2.1⟩
  · obtain ⟨e7, tp, T', t1, t2, rfl, hn, hg⟩ := hp
    have e8 := tp.2 c8 g8
    have hkk : ∀ b o, s.heap.get? b = some o → h'.get? b = some o := fun x o e => by
      by_cases h7 : x = 73
      · subst h7; rw [e7]; exact e
      · by_cases h8 : x = 80
        · subst h8; rw [g8] at e; cases e; exact e8
        · exact hkeep x o (not_in2 h7 h8) e
    exact h T' _ _ t1 t2 h' tk' rfl rfl (F.keeps hkk) (news_add F hn (fun p hp => ⟨hkk _ _ (N p hp).1, (N p hp).2⟩) hg) (ne_of_fresh N hn)
theorem use_dp_miss {a b : Int} {ta tb : Tok} {c7 : Addr} {gg : Obj → List (Addr × Obj)} (B : Below A₀ base outer h₀) (F : Fr h₀ L s.heap m) (X : (Mine.hd.heap_39 w.params).In h₀) (N : News h₀ L s.heap news) (T : Top p loose mean mg mb h₀) (hk : cs.kind = .function)
    (q7 : (73, tab1 49 4 c7) ∈ news) (hc7 : s.heap.CodeRec (.ref c7) q73) (U : UpdF 80 (tabObj #[]) news gg) (h0 : Owe (DpOk a b ∧ dp + 30 < recursionLimit ∧ un + 400 < cLine))
    (h : ∀ T' q r t1 t2 c' oc vs tc h' tk', q = a / b → r = a % b → oc.data = .fields vs → vs[1]? = some (.str q80 tc) → Fr h₀ L h' m → News h₀ L h' ((T', tup2 q r t1 t2) :: (c', oc) :: gg (tab1 64 4 c')) → (∀ p ∈ news, p.1 ≠ T') → (∀ p ∈ news, p.1 ≠ c') → Q (.ref T') { s with heap := h', toks := tk' }) :
    wpAny (model PySem.Challenge.rw_xg0080_01.row.prog w) (ktrTop dp un gd cn cs L ad ccd cl outer) (call (.ref 92) [.int a ta, .int b tb]) Q E s := by
  obtain ⟨o1, o2, o3⟩ := h0.out
  obtain ⟨own, rest, e1, hg, u1, u2⟩ := U.split
  have q8 : (80, tabObj #[]) ∈ news := by rw [e1]; exact List.mem_append_right _ (.head _)
  have g7 := (N _ q7).1
  have g8 := (N _ q8).1
  refine dp_con a b ta tb o1 dp un gd cn cs ad ccd cl outer A₀ base h₀ L m s Q E B F X T hk o2 o3 (fun x hx => ?_) ⟨⟨c7, g7, hc7⟩, .inl g8⟩ fun r h' tk' hkeep hp => ?_
  · rcases List.mem_cons.mp hx with rfl | hx
    · exact ⟨(N _ q7).2.2, (N _ q7).2.1⟩
    · rw [List.mem_singleton.mp hx]; exact ⟨(N _ q8).2.2, (N _ q8).2.1⟩
  · obtain ⟨e7, tp, T', t1, t2, rfl, hn, hT⟩ := hp
    obtain ⟨c', oc, vs, tc, f1, f2, f3, f4, e8⟩ := tp.1 g8
    have hkk : ∀ x o, x ≠ 80 → s.heap.get? x = some o → h'.get? x = some o := fun x o h8 e => by
      by_cases h7 : x = 73
      · subst h7; rw [e7]; exact e
      · exact hkeep x o (not_in2 h7 h8) e
    have hL8 : L ≠ 80 := fun q => (N _ q8).2.1 q.symm
    have h08 : h₀.get? 80 = none := (N _ q8).2.2
    have F' : Fr h₀ L h' m := ⟨F.ns.at' fun o e => hkk L o hL8 e, fun x o e => hkk x o (fun q => by rw [q, h08] at e; cases e) (F.keep x o e), F.above⟩
    have N' : News h₀ L h' (gg (tab1 64 4 c')) := fun p hp => by
      rw [hg] at hp
      rcases List.mem_append.mp hp with hp | hp
      · have hm : p ∈ news := by rw [e1]; exact List.mem_append_left _ hp
        exact ⟨hkk _ _ (u1 p hp) (N p hm).1, (N p hm).2⟩
      · rcases List.mem_cons.mp hp with rfl | hp
        · exact ⟨e8, (N _ q8).2⟩
        · have hm : p ∈ news := by rw [e1]; exact List.mem_append_right _ (.tail _ hp)
          exact ⟨hkk _ _ (u2 p hp) (N p hm).1, (N p hm).2⟩
    exact h T' _ _ t1 t2 c' oc vs tc h' tk' rfl rfl f3 f4 F' (news_add F hn (news_add F f1 N' f2) hT) (ne_of_fresh N hn) (ne_of_fresh N f1)
theorem ints4 {lv : List Value} {ts : List Int} (h : IntsAre lv ts) (h4 : ts.length = 4) : ∃ a b c d ta tb tc td, lv = [.int a ta, .int b tb, .int c tc, .int d td] ∧ ts = [a, b, c, d] := by
  cases h with
  | nil => simp at h4
  | cons a ta h =>
    cases h with
    | nil => simp at h4
    | cons b tb h =>
      cases h with
      | nil => simp at h4
      | cons c tc h =>
        cases h with
        | nil => simp at h4
        | cons d td h =>
          cases h with
          | nil => exact ⟨a, b, c, d, ta, tb, tc, td, rfl, rfl⟩
          | cons e te h => simp at h4
theorem use_tot4 {l : Addr} {vs : List Value} {ns : List Int} (B : Below A₀ base outer h₀) (F : Fr h₀ L s.heap m) (X : (Mine.hd.heap_39 w.params).In h₀) (N : News h₀ L s.heap news) (T : Top p loose mean mg mb h₀) (hk : cs.kind = .function) (hl : h₀.IsList l vs.toArray) (hi : IntsAre vs ns) (h0 : Owe (ns.length ≤ 63 ∧ dp + 10 < recursionLimit ∧ un + 80 < cLine))
    (h : ∀ l' (a b c d : Int) ta tb tc td ep h' tk', (0 ≤ a ∧ a ≤ 100000000) → (0 ≤ b ∧ b ≤ 100000000) → (0 ≤ c ∧ c ≤ 100000000) → (0 ≤ d ∧ d ≤ 100000000) → Fr h₀ L h' m → News h₀ L h' ((l', listOf #[.int a ta, .int b tb, .int c tc, .int d td] ep) :: news) → (∀ p ∈ news, p.1 ≠ l') → Q (.ref l') { s with heap := h', toks := tk' }) :
    wpAny (model PySem.Challenge.rw_xg0080_01.row.prog w) (ktrTop dp un gd cn cs L ad ccd cl outer) (call (.ref 165) [.ref l]) Q E s := by
  refine use_tot B F X N T hk hl hi h0 fun l' lv ts ep h' tk' hI h4 hb F' N' l1 => ?_
  obtain ⟨a, b, c, d, ta, tb, tc, td, rfl, rfl⟩ := ints4 hI h4
  exact h l' a b c d ta tb tc td ep h' tk' (hb a (by simp)) (hb b (by simp)) (hb c (by simp)) (hb d (by simp)) F' N' l1
end
end Mine
end

section
open PySem PySem.W PyProof.Rows
set_option Elab.async false
set_option linter.unusedVariables false
namespace Mine
/-- the number of a purse: the product of 1 + 2 ^ (wd * c) -/
def numOf (wd : Int) (cs : List Int) : Int := cs.foldl (fun n c => n + n * 2 ^ (wd * c).toNat) 1
theorem val_rep (n : Nat) : ∀ k : Nat, val n (List.replicate k 0) = 0
  | 0 => rfl
  | k + 1 => by rw [List.replicate_succ, val, val_rep n k]; simp
theorem val_zsum (n : Nat) : ∀ xs ys : List Int, xs.length = ys.length → val n (zsum xs ys) = val n xs + val n ys
  | [], [], _ => rfl
  | x :: xs, y :: ys, h => by
    have ih := val_zsum n xs ys (by simpa using h)
    unfold zsum at ih ⊢
    rw [List.zipWith_cons_cons, val, val, val, ih, Int.mul_add]
    lia
theorem val_wstep (n : Nat) (ws : List Int) (c : Int) : val n (wstep ws c) = val n ws + val n ws * 2 ^ (n * c.toNat) := by
  unfold wstep
  rw [val_zsum n _ _ (by simp [Nat.add_comm]), val_append, val_append, val_rep]
  simp only [List.length_replicate, Int.mul_zero, Int.add_zero, Int.zero_add]
  rw [Int.mul_comm]
theorem val_fold (n : Nat) : ∀ (cs ws : List Int), (∀ c ∈ cs, 0 ≤ c) → val n (cs.foldl wstep ws) = cs.foldl (fun x c => x + x * 2 ^ ((n : Int) * c).toNat) (val n ws)
  | [], ws, _ => rfl
  | c :: r, ws, h => by
    rw [List.foldl_cons, List.foldl_cons, val_fold n r _ fun x hx => h x (.tail _ hx), val_wstep]
    have e : ((n : Int) * c).toNat = n * c.toNat := by
      obtain ⟨k, rfl⟩ := Int.eq_ofNat_of_zero_le (h c (.head _))
      rw [← Int.natCast_mul, Int.toNat_natCast, Int.toNat_natCast]
    rw [e]
theorem val_ways (n : Nat) {cs : List Int} (h : ∀ c ∈ cs, 1 ≤ c ∧ c ≤ 8) : val n (waysOf cs) = numOf n cs := by
  unfold waysOf numOf
  rw [val_fold n cs [1] fun c hc => by have := h c hc; lia]
  simp [val]
theorem digs_val (n : Nat) : ∀ ds : List Int, (∀ d ∈ ds, 0 ≤ d ∧ d < 2 ^ n) → ds ≠ [] → digs n ds.length (val n ds) = ds
  | [], _, h => absurd rfl h
  | [d], _, _ => by simp [val, digs]
  | d :: e :: r, h, _ => by
    have ih := digs_val n (e :: r) (fun x hx => h x (.tail _ hx)) (by simp)
    obtain ⟨d0, d1⟩ := h d (.head _)
    have hp := pow_pos' n
    have q := ediv_emod_of (a := val n (d :: e :: r)) (q := val n (e :: r)) hp (by rw [val, Int.mul_comm]; lia) d0 d1
    show digs n (r.length + 2) _ = _
    rw [digs, q.1, q.2]
    exact congrArg _ ih
theorem nd_val {n : Nat} (hn : 1 ≤ n) {i : List Int} {z : Int} (h : ∀ d ∈ i ++ [z], 0 ≤ d ∧ d < 2 ^ n) (hz : 1 ≤ z) :
    0 < val n (i ++ [z]) ∧ nd (val n (i ++ [z])) n = i.length + 1 ∧ Builtin.Int.intBits (val n (i ++ [z])) ≤ n * (i.length + 1) := by
  have hb := val_bounds n (i ++ [z]) h
  have hi := val_bounds n i fun d hd => h d (List.mem_append_left _ hd)
  have e := val_append n i [z]
  have hp := pow_pos' (n * i.length)
  have e1 : val n [z] = z := by simp [val]
  rw [e1] at e
  have low : 2 ^ (n * i.length) ≤ val n (i ++ [z]) := by
    have := Int.mul_le_mul_of_nonneg_left hz (Int.le_of_lt hp)
    rw [Int.mul_one] at this
    lia
  have el : (i ++ [z]).length = i.length + 1 := by simp
  rw [el] at hb
  have up := bits_of_lt hb.1 hb.2
  have lo : ¬ Builtin.Int.intBits (val n (i ++ [z])) ≤ n * i.length := fun q => by
    have := lt_of_bits hb.1 q
    lia
  refine ⟨by lia, ?_, up⟩
  unfold nd
  generalize Builtin.Int.intBits (val n (i ++ [z])) = B at *
  rw [Nat.mul_succ] at up
  have hq : ((B : Int) + n - 1) / n = (i.length : Int) + 1 := by
    refine (ediv_emod_of (r := (B : Int) + n - 1 - ((i.length : Int) + 1) * n) (by lia) (by lia) ?_ ?_).1
    · rw [Int.add_mul, Int.one_mul, ← Int.natCast_mul, Nat.mul_comm]
      lia
    · rw [Int.add_mul, Int.one_mul, ← Int.natCast_mul, Nat.mul_comm]
      lia
  rw [hq]; lia
theorem zsum_mem : ∀ {xs ys : List Int} {B C : Int}, (∀ d ∈ xs, 0 ≤ d ∧ d ≤ B) → (∀ d ∈ ys, 0 ≤ d ∧ d ≤ C) → ∀ d ∈ zsum xs ys, 0 ≤ d ∧ d ≤ B + C
  | [], ys, B, C, _, _, d, h => by simp [zsum] at h
  | x :: xs, [], B, C, _, _, d, h => by simp [zsum] at h
  | x :: xs, y :: ys, B, C, h1, h2, d, h => by
    unfold zsum at h
    rw [List.zipWith_cons_cons] at h
    rcases List.mem_cons.mp h with rfl | h
    · have := h1 x (.head _); have := h2 y (.head _); lia
    · exact zsum_mem (fun a ha => h1 a (.tail _ ha)) (fun a ha => h2 a (.tail _ ha)) d h
theorem wstep_mem {ws : List Int} {c B : Int} (hB : 0 ≤ B) (h : ∀ d ∈ ws, 0 ≤ d ∧ d ≤ B) : ∀ d ∈ wstep ws c, 0 ≤ d ∧ d ≤ B + B := by
  have aux : ∀ k : Nat, ∀ d ∈ List.replicate k (0 : Int), 0 ≤ d ∧ d ≤ B := fun k d hd => by rw [(List.mem_replicate.mp hd).2]; exact ⟨by lia, hB⟩
  refine zsum_mem (fun d hd => ?_) (fun d hd => ?_)
  · rcases List.mem_append.mp hd with hd | hd
    · exact h d hd
    · exact aux _ d hd
  · rcases List.mem_append.mp hd with hd | hd
    · exact aux _ d hd
    · exact h d hd
theorem ways_mem_aux : ∀ (cs ws : List Int) (B : Int), 0 ≤ B → (∀ d ∈ ws, 0 ≤ d ∧ d ≤ B) → ∀ d ∈ cs.foldl wstep ws, 0 ≤ d ∧ d ≤ B * 2 ^ cs.length
  | [], ws, B, _, h => by simpa using h
  | c :: r, ws, B, hB, h => by
    have := ways_mem_aux r (wstep ws c) (B + B) (by lia) (wstep_mem hB h)
    intro d hd
    have q := this d hd
    rw [List.length_cons, Int.pow_succ, Int.mul_comm (2 ^ r.length) 2, ← Int.mul_assoc, show B * 2 = B + B by lia]
    exact q
theorem ways_mem {cs : List Int} (hl : cs.length ≤ 4) : ∀ d ∈ waysOf cs, 0 ≤ d ∧ d ≤ 16 := by
  intro d hd
  have := ways_mem_aux cs [1] 1 (by decide) (by simp) d hd
  have hp := pow_le (i := cs.length) (j := 4) hl
  lia
theorem ways_last_aux : ∀ (cs ws : List Int), (∀ c ∈ cs, 1 ≤ c ∧ c ≤ 8) → (∃ i, ws = i ++ [1]) → ∃ i, cs.foldl wstep ws = i ++ [1]
  | [], ws, _, h => h
  | c :: r, ws, hc, ⟨i, e⟩ => by
    refine ways_last_aux r (wstep ws c) (fun x hx => hc x (.tail _ hx)) ?_
    obtain ⟨k, hk⟩ : ∃ k, c.toNat = k + 1 := ⟨c.toNat - 1, by have := hc c (.head _); lia⟩
    unfold wstep
    rw [hk, e]
    have e1 : i ++ [1] ++ List.replicate (k + 1) 0 = (i ++ [1] ++ List.replicate k 0) ++ [(0 : Int)] := by rw [List.replicate_succ', ← List.append_assoc]
    have e2 : List.replicate (k + 1) 0 ++ (i ++ [1]) = (List.replicate (k + 1) 0 ++ i) ++ [(1 : Int)] := by rw [List.append_assoc]
    rw [e1, e2]
    unfold zsum
    rw [List.zipWith_append (by simp; lia)]
    exact ⟨_, rfl⟩
theorem ways_last {cs : List Int} (h : ∀ c ∈ cs, 1 ≤ c ∧ c ≤ 8) : ∃ i, waysOf cs = i ++ [1] := ways_last_aux cs [1] h ⟨[], rfl⟩
theorem ways_length_aux : ∀ (cs ws : List Int), (∀ c ∈ cs, 1 ≤ c ∧ c ≤ 8) → ((cs.foldl wstep ws).length : Int) = ws.length + cs.sum
  | [], ws, _ => by simp
  | c :: r, ws, h => by
    have ih := ways_length_aux r (wstep ws c) fun x hx => h x (.tail _ hx)
    have := h c (.head _)
    rw [List.foldl_cons, ih, wstep_len, List.sum_cons]
    lia
theorem ways_length {cs : List Int} (h : ∀ c ∈ cs, 1 ≤ c ∧ c ≤ 8) : ((waysOf cs).length : Int) = 1 + cs.sum := by
  have := ways_length_aux cs [1] h
  unfold waysOf
  simpa using this
/-- the figures of the number are the ways -/
theorem num_digs {n : Nat} (hn : 5 ≤ n) (hn2 : n ≤ 1004) {cs : List Int} (h : WaysOk cs) :
    I2Ok (numOf n cs) n ∧ digs n (nd (numOf n cs) n) (numOf n cs) = waysOf cs ∧ Builtin.Int.intBits (numOf n cs) ≤ n * 33 := by
  obtain ⟨i, hi⟩ := ways_last h.2
  have hm : ∀ d ∈ waysOf cs, 0 ≤ d ∧ d < 2 ^ n := fun d hd => by
    have := ways_mem h.1 d hd
    have hp := pow_le (i := 5) (j := n) hn
    have e : (2 : Int) ^ 5 = 32 := rfl
    lia
  have hv := val_ways n h.2
  have hl := waysOf_len h cs.length
  rw [List.take_length] at hl
  have hd := digs_val n (waysOf cs) hm (by rw [hi]; simp)
  rw [hi] at hm hv hl hd
  obtain ⟨v1, v2, v3⟩ := nd_val (by lia) hm (Int.le_refl 1)
  rw [hv] at v1 v2 v3 hd
  rw [List.length_append, List.length_singleton] at hl hd
  have hmul : n * (i.length + 1) ≤ n * 33 := Nat.mul_le_mul_left _ hl
  have hmul2 : n * 33 ≤ 1004 * 33 := Nat.mul_le_mul_right _ hn2
  refine ⟨⟨v1, by lia, by lia, by lia, by lia⟩, ?_, by lia⟩
  rw [v2, hi]; exact hd
theorem numOf_snoc (wd : Int) (cs : List Int) (c : Int) : numOf wd (cs ++ [c]) = numOf wd cs + numOf wd cs * 2 ^ (wd * c).toNat := by
  simp [numOf, List.foldl_append]
theorem numOf_div (wd : Int) (cs : List Int) (c : Int) : numOf wd (cs ++ [c]) / (1 + 2 ^ (wd * c).toNat) = numOf wd cs ∧ numOf wd (cs ++ [c]) % (1 + 2 ^ (wd * c).toNat) = 0 := by
  have hp := pow_pos' (wd * c).toNat
  rw [numOf_snoc]
  refine ediv_emod_of (by lia) ?_ (Int.le_refl _) (by lia)
  rw [Int.mul_add]; lia
theorem bits_one_pow (k : Nat) : Builtin.Int.intBits (1 + 2 ^ k) ≤ k + 2 ∧ k < Builtin.Int.intBits (1 + 2 ^ k) := by
  have hp := pow_pos' k
  constructor
  · refine bits_of_lt (by lia) ?_
    rw [Int.pow_succ, Int.pow_succ]
    lia
  · refine Nat.lt_of_not_le fun q => ?_
    have := lt_of_bits (x := 1 + 2 ^ k) (by lia) q
    lia
theorem num_dp {n : Nat} (hn : 5 ≤ n) (hn2 : n ≤ 1004) {cs : List Int} {c : Int} (h : WaysOk cs) (hc : 1 ≤ c ∧ c ≤ 8) : DpOk (numOf n cs) (1 + 2 ^ ((n : Int) * c).toNat) := by
  obtain ⟨⟨a1, a2, a3, a4, a5⟩, _, a6⟩ := num_digs hn hn2 h
  obtain ⟨k, rfl⟩ := Int.eq_ofNat_of_zero_le (show 0 ≤ c by lia)
  have e : ((n : Int) * (k : Int)).toNat = n * k := by rw [← Int.natCast_mul, Int.toNat_natCast]
  rw [e]
  obtain ⟨b1, b2⟩ := bits_one_pow (n * k)
  have hp := pow_pos' (n * k)
  have m1 : n * 1 ≤ n * k := Nat.mul_le_mul_left _ (by lia)
  have m2 : n * k ≤ 1004 * 8 := Nat.mul_le_mul hn2 (by lia)
  refine ⟨by lia, by lia, a1, by lia, by lia, a4, ?_⟩
  unfold nd
  generalize Builtin.Int.intBits (numOf n cs) = B at *
  generalize Builtin.Int.intBits (1 + 2 ^ (n * k)) = D at *
  have hq : ((B : Int) + D - 1) / D < 34 := by
    refine Int.ediv_lt_of_lt_mul (by lia) ?_
    lia
  lia
end Mine
end

section
open PySem PySem.W PyProof.Rows
set_option Elab.async false
set_option linter.unusedVariables false
namespace Mine
/-- some of the coins pay s -/
def Pay : List Int → Int → Prop
  | [], s => s = 0
  | c :: r, s => Pay r s ∨ Pay r (s - c)
def coef (ws : List Int) (s : Int) : Int := if 0 ≤ s then ws.getD s.toNat 0 else 0
theorem zsum_getD : ∀ (xs ys : List Int), xs.length = ys.length → ∀ i, (zsum xs ys).getD i 0 = xs.getD i 0 + ys.getD i 0
  | [], [], _, i => by simp [zsum]
  | x :: xs, y :: ys, h, 0 => by simp [zsum]
  | x :: xs, y :: ys, h, i + 1 => by
    have := zsum_getD xs ys (by simpa using h) i
    unfold zsum at this ⊢
    rw [List.zipWith_cons_cons, List.getD_cons_succ, List.getD_cons_succ, List.getD_cons_succ, this]
theorem rep_getD : ∀ k i : Nat, (List.replicate k (0 : Int)).getD i 0 = 0
  | 0, i => by simp
  | k + 1, 0 => by simp [List.replicate_succ]
  | k + 1, i + 1 => by rw [List.replicate_succ, List.getD_cons_succ]; exact rep_getD k i
theorem app_rep : ∀ (ws : List Int) (k i : Nat), (ws ++ List.replicate k 0).getD i 0 = ws.getD i 0
  | [], k, i => by rw [List.nil_append, rep_getD]; simp
  | w :: ws, k, 0 => by simp
  | w :: ws, k, i + 1 => by rw [List.cons_append, List.getD_cons_succ, List.getD_cons_succ]; exact app_rep ws k i
theorem rep_app (ws : List Int) : ∀ k i : Nat, (List.replicate k 0 ++ ws).getD i 0 = if i < k then 0 else ws.getD (i - k) 0
  | 0, i => by simp
  | k + 1, 0 => by simp [List.replicate_succ]
  | k + 1, i + 1 => by
    rw [List.replicate_succ, List.cons_append, List.getD_cons_succ, rep_app ws k i]
    simp only [Nat.add_lt_add_iff_right, Nat.add_sub_add_right]
theorem coef_wstep (ws : List Int) {c : Int} (hc : 0 ≤ c) (s : Int) : coef (wstep ws c) s = coef ws s + coef ws (s - c) := by
  unfold coef
  by_cases h : 0 ≤ s
  · rw [if_pos h, if_pos h]
    unfold wstep
    rw [zsum_getD _ _ (by simp [Nat.add_comm]), app_rep, rep_app]
    by_cases h2 : 0 ≤ s - c
    · rw [if_pos h2, if_neg (by lia)]
      have e : s.toNat - c.toNat = (s - c).toNat := by lia
      rw [e]
    · rw [if_neg h2, if_pos (by lia)]
  · rw [if_neg h, if_neg h, if_neg (by lia)]; rfl
theorem coef_nonneg {ws : List Int} (h : ∀ d ∈ ws, 0 ≤ d) (s : Int) : 0 ≤ coef ws s := by
  unfold coef
  split
  · rw [List.getD_eq_getElem?_getD]
    cases e : ws[s.toNat]? with
    | none => simp
    | some d => exact h d (List.mem_of_getElem? e)
  · exact Int.le_refl _
theorem wstep_nonneg {ws : List Int} {c : Int} (h : ∀ d ∈ ws, 0 ≤ d) : ∀ d ∈ wstep ws c, 0 ≤ d := by
  have g : ∃ B : Int, 0 ≤ B ∧ ∀ d ∈ ws, 0 ≤ d ∧ d ≤ B := by
    clear c
    induction ws with
    | nil => exact ⟨0, by lia, by simp⟩
    | cons w ws ih =>
      obtain ⟨B, hB, hb⟩ := ih fun d hd => h d (.tail _ hd)
      have := h w (.head _)
      refine ⟨B + w, by lia, fun d hd => ?_⟩
      rcases List.mem_cons.mp hd with rfl | hd
      · lia
      · have := hb d hd; lia
  obtain ⟨B, hB, hb⟩ := g
  exact fun d hd => (wstep_mem hB hb d hd).1
theorem pay_fold : ∀ (cs ws : List Int), (∀ d ∈ ws, 0 ≤ d) → (∀ c ∈ cs, 0 ≤ c) → ∀ s, coef (cs.foldl wstep ws) s ≠ 0 ↔ ∃ t, coef ws t ≠ 0 ∧ Pay cs (s - t)
  | [], ws, h, _, s => by
    constructor
    · intro q; exact ⟨s, q, by simp [Pay]⟩
    · rintro ⟨t, h1, h2⟩
      have e : s = t := by unfold Pay at h2; lia
      subst e; exact h1
  | c :: r, ws, h, hc, s => by
    rw [List.foldl_cons, pay_fold r (wstep ws c) (wstep_nonneg h) (fun x hx => hc x (.tail _ hx))]
    have h0 := hc c (.head _)
    constructor
    · rintro ⟨t, h1, h2⟩
      rw [coef_wstep ws h0] at h1
      by_cases q : coef ws t = 0
      · refine ⟨t - c, by lia, ?_⟩
        right
        have e : s - (t - c) - c = s - t := by lia
        rw [e]; exact h2
      · exact ⟨t, q, .inl h2⟩
    · rintro ⟨t, h1, h2⟩
      rcases h2 with h2 | h2
      · refine ⟨t, ?_, h2⟩
        rw [coef_wstep ws h0]
        have := coef_nonneg h t; have := coef_nonneg h (t - c); lia
      · refine ⟨t + c, ?_, ?_⟩
        · rw [coef_wstep ws h0]
          have e : t + c - c = t := by lia
          rw [e]
          have := coef_nonneg h t; have := coef_nonneg h (t + c); lia
        · have e : s - (t + c) = s - t - c := by lia
          rw [e]; exact h2
theorem pay_ways {cs : List Int} (hc : ∀ c ∈ cs, 1 ≤ c ∧ c ≤ 8) (s : Int) : coef (waysOf cs) s ≠ 0 ↔ Pay cs s := by
  unfold waysOf
  rw [pay_fold cs [1] (by simp) (fun c h => by have := hc c h; lia)]
  have c1 : ∀ t : Int, coef [1] t ≠ 0 ↔ t = 0 := by
    intro t
    unfold coef
    by_cases h : 0 ≤ t
    · rw [if_pos h]
      obtain ⟨k, rfl⟩ := Int.eq_ofNat_of_zero_le h
      rw [Int.toNat_natCast]
      cases k with
      | zero => simp
      | succ k => simp; lia
    · rw [if_neg h]; constructor
      · intro q; exact absurd rfl q
      · intro q; lia
  constructor
  · rintro ⟨t, h1, h2⟩
    rw [c1] at h1; subst h1; simpa using h2
  · intro h; exact ⟨0, (c1 0).mpr rfl, by simpa using h⟩
theorem sum_app : ∀ a b : List Int, (a ++ b).sum = a.sum + b.sum
  | [], b => by simp
  | x :: a, b => by rw [List.cons_append, List.sum_cons, List.sum_cons, sum_app a b]; lia
theorem perm_sum {a b : List Int} (h : a.Perm b) : a.sum = b.sum := by
  induction h with
  | nil => rfl
  | cons x _ ih => rw [List.sum_cons, List.sum_cons, ih]
  | swap x y l => simp only [List.sum_cons]; lia
  | trans _ _ i1 i2 => rw [i1, i2]
theorem perm_pay {a b : List Int} (h : a.Perm b) : ∀ s, Pay a s ↔ Pay b s := by
  induction h with
  | nil => intro s; exact Iff.rfl
  | cons x _ ih => intro s; simp only [Pay]; rw [ih, ih]
  | swap x y l =>
    intro s
    simp only [Pay]
    have e : s - y - x = s - x - y := by lia
    rw [e]
    constructor
    · rintro ((h | h) | (h | h)) <;> simp [h]
    · rintro ((h | h) | (h | h)) <;> simp [h]
  | trans _ _ i1 i2 => intro s; rw [i1, i2]
theorem pay_sum : ∀ {l : List Int} {s : Int}, (∀ c ∈ l, 0 ≤ c) → Pay l s → 0 ≤ s ∧ s ≤ l.sum
  | [], s, _, h => by unfold Pay at h; simp; lia
  | c :: r, s, hc, h => by
    have h0 := hc c (.head _)
    rw [List.sum_cons]
    rcases h with h | h
    · have := pay_sum (fun x hx => hc x (.tail _ hx)) h; lia
    · have := pay_sum (fun x hx => hc x (.tail _ hx)) h; lia
def low (i : Nat) (l : List Int) : List Int := l.filter fun c => decide (c < (i : Int))
theorem low_cons (i : Nat) (c : Int) (l : List Int) : low i (c :: l) = if c < (i : Int) then c :: low i l else low i l := by
  unfold low
  rw [List.filter_cons]
  simp only [decide_eq_true_eq]
theorem pay_small : ∀ {l : List Int} {s : Int} {i : Nat}, (∀ c ∈ l, 0 ≤ c) → Pay l s → s < i → Pay (low i l) s
  | [], s, i, _, h, _ => h
  | c :: r, s, i, hc, h, hs => by
    have h0 := hc c (.head _)
    have hr : ∀ x ∈ r, 0 ≤ x := fun x hx => hc x (.tail _ hx)
    rw [low_cons]
    rcases h with h | h
    · have := pay_small hr h hs
      split
      · exact .inl this
      · exact this
    · have b := pay_sum hr h
      have := pay_small hr h (show s - c < i by lia)
      rw [if_pos (by lia)]
      exact .inr this
theorem pay_up : ∀ {l : List Int} {s : Int} {i : Nat}, Pay (low i l) s → Pay l s
  | [], s, i, h => h
  | c :: r, s, i, h => by
    rw [low_cons] at h
    split at h
    · rcases h with h | h
      · exact .inl (pay_up h)
      · exact .inr (pay_up h)
    · exact .inl (pay_up h)
theorem pay_rep {l : List Int} {r i : Int} (h : Pay l r) : ∀ (o q : Nat), q ≤ o → Pay (List.replicate o i ++ l) (r + q * i)
  | 0, q, hq => by
    have e : q = 0 := by lia
    subst e; simpa using h
  | o + 1, 0, _ => by
    rw [List.replicate_succ, List.cons_append]
    exact .inl (pay_rep h o 0 (Nat.zero_le _))
  | o + 1, q + 1, hq => by
    rw [List.replicate_succ, List.cons_append]
    refine .inr ?_
    have e : r + ((q + 1 : Nat) : Int) * i - i = r + (q : Int) * i := by
      rw [Int.natCast_add, Int.add_mul]; lia
    rw [e]
    exact pay_rep h o q (by lia)
theorem low_succ (i : Nat) : ∀ l : List Int, (low (i + 1) l).Perm (List.replicate (l.count (i : Int)) (i : Int) ++ low i l)
  | [] => .nil
  | c :: r => by
    have ih := low_succ i r
    rw [low_cons, low_cons, List.count_cons]
    by_cases h : c < (i : Int)
    · have ne : (c == (i : Int)) = false := by simpa using (show c ≠ (i : Int) by lia)
      rw [if_pos (by lia), if_pos h, ne]
      exact (ih.cons c).trans List.perm_middle.symm
    · by_cases h2 : c = (i : Int)
      · subst h2
        rw [if_pos (by lia), if_neg h]
        simp only [beq_self_eq_true, if_true]
        rw [List.replicate_succ, List.cons_append]
        exact ih.cons _
      · have ne : (c == (i : Int)) = false := by simpa using h2
        rw [if_neg (by lia), if_neg h, ne]
        exact ih
theorem rep_sum (o : Nat) (i : Int) : (List.replicate o i).sum = o * i := by
  induction o with
  | zero => simp
  | succ o ih => rw [List.replicate_succ, List.sum_cons, ih, Int.natCast_add, Int.add_mul]; lia
theorem low_sum (i : Nat) (l : List Int) (h : ∀ c ∈ l, 0 ≤ c) : (low i l).sum ≤ l.sum := by
  induction l with
  | nil => simp [low]
  | cons c r ih =>
    have := ih fun x hx => h x (.tail _ hx)
    have h0 := h c (.head _)
    rw [low_cons]
    split
    · rw [List.sum_cons, List.sum_cons]; lia
    · rw [List.sum_cons]; lia
theorem low_all {i : Nat} : ∀ {l : List Int}, (∀ c ∈ l, c < (i : Int)) → low i l = l
  | [], _ => rfl
  | c :: r, h => by rw [low_cons, if_pos (h c (.head _)), low_all fun x hx => h x (.tail _ hx)]
/-- Brown's rule -/
theorem lu_brown {rs : List Int} (hr : ∀ c ∈ rs, 1 ≤ c) : ∀ (cnt : List Int) (i : Nat) (p : Int), (∀ j : Nat, cnt.getD j 0 = (rs.count ((i + j : Nat) : Int) : Int)) → p = (low i rs).sum → (∀ s, 0 ≤ s → s ≤ p → Pay (low i rs) s) →
    (∀ s, 0 ≤ s → s < luRun i p cnt → Pay rs s) ∧ ¬ Pay rs (luRun i p cnt) ∧ 1 ≤ luRun i p cnt ∧ luRun i p cnt ≤ rs.sum + 1 := by
  have hr0 : ∀ c ∈ rs, 0 ≤ c := fun c h => by have := hr c h; lia
  intro cnt
  induction cnt with
  | nil =>
    intro i p hc hp hs
    have all : ∀ c ∈ rs, c < (i : Int) := fun c h => by
      refine Decidable.byContradiction fun q => ?_
      have := hc (c - i).toNat
      have e : ((i + (c - i).toNat : Nat) : Int) = c := by lia
      rw [e] at this
      have pos := List.count_pos_iff.mpr h
      simp at this
      lia
    rw [low_all all] at hp hs
    show (∀ s, 0 ≤ s → s < p + 1 → Pay rs s) ∧ ¬ Pay rs (p + 1) ∧ 1 ≤ p + 1 ∧ p + 1 ≤ rs.sum + 1
    have p0 : 0 ≤ p := by
      have := pay_sum (l := rs) (s := 0) hr0 (by
        clear hp hs hc all
        induction rs with
        | nil => rfl
        | cons c r ih => exact .inl (ih (fun x hx => hr x (.tail _ hx)) fun x hx => hr0 x (.tail _ hx)))
      lia
    refine ⟨fun s h1 h2 => hs s h1 (by lia), fun q => ?_, by lia, by lia⟩
    have := pay_sum hr0 q
    lia
  | cons o r ih =>
    intro i p hc hp hs
    have ho : o = (rs.count (i : Int) : Int) := by simpa using hc 0
    have p0 : 0 ≤ p := by
      have z : ∀ l : List Int, Pay l 0 := fun l => by
        induction l with
        | nil => rfl
        | cons c r ih => exact .inl ih
      have hl : ∀ c ∈ low i rs, 0 ≤ c := fun c h => hr0 c (List.mem_filter.mp h).1
      have := pay_sum hl (z _)
      lia
    unfold luRun
    split
    · rename_i h
      refine ⟨fun s h1 h2 => pay_up (hs s h1 (by lia)), fun q => ?_, by lia, ?_⟩
      · have := pay_sum (l := low i rs) (fun c h => hr0 c (List.mem_filter.mp h).1) (pay_small hr0 q h.2)
        lia
      · have := low_sum i rs hr0; lia
    · rename_i h
      have pm := low_succ i rs
      refine ih (i + 1) (p + i * o) (fun j => ?_) ?_ ?_
      · have := hc (j + 1)
        rw [List.getD_cons_succ] at this
        rw [this]
        have e : i + 1 + j = i + (j + 1) := by lia
        rw [e]
      · rw [perm_sum pm, sum_app, rep_sum, ← hp, ← ho, Int.mul_comm]; lia
      · intro s h0 h1
        rw [perm_pay pm]
        have low0 : s ≤ p → Pay (List.replicate (rs.count (i : Int)) (i : Int) ++ low i rs) s := fun q => by
          have := pay_rep (i := (i : Int)) (hs s h0 q) (rs.count (i : Int)) 0 (Nat.zero_le _)
          simpa using this
        by_cases hq : s ≤ p
        · exact low0 hq
        · have o1 : 0 < o := by
            refine Decidable.byContradiction fun q => ?_
            have : o = 0 := by lia
            rw [this] at h1; lia
          have hi : (i : Int) ≤ p + 1 := by
            refine Decidable.byContradiction fun q => h ⟨o1, by lia⟩
          have i1 : 1 ≤ i := by
            have : 0 < rs.count (i : Int) := by lia
            have := hr _ (List.count_pos_iff.mp this)
            lia
          obtain ⟨k, hk⟩ := Int.eq_ofNat_of_zero_le h0
          subst hk
          by_cases hd : k / i < rs.count (i : Int)
          · have m := Nat.mod_lt k (show i > 0 by lia)
            have := pay_rep (i := (i : Int)) (hs ((k % i : Nat) : Int) (by lia) (by lia)) (rs.count (i : Int)) (k / i) (by lia)
            have e : ((k % i : Nat) : Int) + ((k / i : Nat) : Int) * (i : Int) = (k : Int) := by
              rw [← Int.natCast_mul, ← Int.natCast_add, Nat.mul_comm, Nat.mod_add_div]
            rw [e] at this
            exact this
          · have m : rs.count (i : Int) * i ≤ k := Nat.le_trans (Nat.mul_le_mul_right _ (Nat.le_of_not_lt hd)) (Nat.div_mul_le_self k i)
            have e : (i : Int) * o = ((rs.count (i : Int) * i : Nat) : Int) := by rw [ho, ← Int.natCast_mul, Nat.mul_comm]
            rw [e] at h1
            have := pay_rep (i := (i : Int)) (hs ((k : Int) - ((rs.count (i : Int) * i : Nat) : Int)) (by lia) (by lia)) (rs.count (i : Int)) (rs.count (i : Int)) (Nat.le_refl _)
            rw [← Int.natCast_mul] at this
            have e2 : (k : Int) - ((rs.count (i : Int) * i : Nat) : Int) + ((rs.count (i : Int) * i : Nat) : Int) = (k : Int) := by lia
            rw [e2] at this
            exact this
/-- the first sum that is not paid -/
theorem brown {cs rs cnt : List Int} (hok : WaysOk cs) (hp : rs.Perm cs) (hc : ∀ j : Nat, cnt.getD j 0 = (rs.count ((j : Nat) : Int) : Int)) :
    ∃ j : Nat, luRun 0 0 cnt = (j : Int) ∧ (waysOf cs ++ [0])[j]? = some 0 ∧ ∀ i < j, ∀ y, (waysOf cs ++ [0])[i]? = some y → y ≠ 0 := by
  have hr : ∀ c ∈ rs, 1 ≤ c := fun c h => (hok.2 c (hp.mem_iff.mp h)).1
  have l0 : low 0 rs = [] := by
    unfold low
    rw [List.filter_eq_nil_iff]
    intro c h
    have := hr c h
    simp; lia
  obtain ⟨h1, h2, h3, h4⟩ := lu_brown hr cnt 0 0 (fun j => by rw [hc, Nat.zero_add]) (by rw [l0]; rfl) (fun s a b => by
    have e : s = 0 := by lia
    subst e; rw [l0]; rfl)
  generalize luRun 0 0 cnt = r at *
  obtain ⟨j, rfl⟩ := Int.eq_ofNat_of_zero_le (show 0 ≤ r by lia)
  have hl := ways_length hok.2
  have hs := perm_sum hp
  refine ⟨j, rfl, ?_, fun i hi y hy => ?_⟩
  · rw [perm_pay hp, ← pay_ways hok.2] at h2
    by_cases q : j < (waysOf cs).length
    · rw [List.getElem?_append_left q]
      unfold coef at h2
      rw [if_pos (by lia), Int.toNat_natCast, List.getD_eq_getElem?_getD, List.getElem?_eq_getElem q] at h2
      rw [List.getElem?_eq_getElem q]
      simp at h2
      rw [h2]
    · have e : j = (waysOf cs).length := by lia
      rw [e]; simp
  · have := h1 (i : Int) (by lia) (by lia)
    rw [perm_pay hp, ← pay_ways hok.2] at this
    have q : i < (waysOf cs).length := by lia
    rw [List.getElem?_append_left q] at hy
    unfold coef at this
    rw [if_pos (by lia), Int.toNat_natCast, List.getD_eq_getElem?_getD, hy] at this
    simpa using this
end Mine
end

section
open PySem PySem.W PyProof.Rows PySem.Calls
set_option Elab.async false
set_option maxRecDepth 100000
set_option linter.unusedVariables false
namespace Mine
/-- a part of the proof that is left for behind the walk -/
structure Later (P : Prop) : Prop where
  out : P
/-- two addresses differ (kept out of omega's sight) -/
structure NeA (a b : Addr) : Prop where
  out : @Ne Nat a b
structure NeI (a b : Addr) : Prop where
  out : @Ne Nat a b
structure OffL (d : Addr) (l : List (Addr × Obj)) : Prop where
  out : ∀ p ∈ l, p.1 ≠ d
theorem offL_ne {a d : Addr} {o : Obj} {l : List (Addr × Obj)} (h : OffL d l) (hm : (a, o) ∈ l) : @Ne Nat a d := h.out _ hm
def leadL (rs : List Int) : List Nat := rs.flatMap fun r => List.replicate r.toNat 32 ++ [9]
def leadS (rs : List Int) : Str := ⟨(leadL rs).toArray⟩
def nats (cs : List Int) : List Nat := cs.map Int.toNat
/-- a table that is empty, or holds the code object c -/
def TabAny (x y : Int) (q : Str) (o : Obj) (c : Addr) (oc : Obj) : Prop := o = tabObj #[] ∨ (o = tab1 x y c ∧ ∃ vs t, oc.data = .fields vs ∧ vs[1]? = some (.str q t))
section
variable {w : World} {p : Program} {loose : List Str} {mean : ExcName → Option Value} {mg mb : Str → Option Value}
  {dp un : Nat} {gd : Option (List Code)} {cn : Str} {cs : Scope} {ad : Addr} {ccd : Value} {cl : List (Str × Addr)} {outer : List Env} {A₀ : Around} {base h₀ : Heap} {L : Addr} {m : Str → Option Value} {news : List (Addr × Obj)} {s : Shared} {Q E : Value → Shared → Prop}
theorem use_i2_any {a : Int} {n : Nat} {ta tn : Tok} {o7 x7 o8 oI : Obj} {c7 I : Addr} {gg : Obj → List (Addr × Obj)} (B : Below A₀ base outer h₀) (F : Fr h₀ L s.heap m) (X : (Mine.hd.heap_39 w.params).In h₀) (T : Top p loose mean mg mb h₀) (hk : cs.kind = .function)
    (N : News h₀ L s.heap news) (ht : TabAny 49 4 q73 o7 c7 x7) (U : UpdF 73 o7 news gg) (hc : (c7, x7) ∈ news) (h8 : (80, o8) ∈ news) (n7 : NeA c7 73) (n8 : NeA c7 80) (nI : NeI c7 I) (hI' : (I, oI) ∈ news) (h0 : Owe (I2Ok a n ∧ dp + 10 < recursionLimit ∧ un + 200 < cLine))
    (h : ∀ l its ep c' oc vs t h' tk', IntsAre its (digs n (nd a n) a) → oc.data = .fields vs → vs[1]? = some (.str q73 t) → Fr h₀ L h' m → News h₀ L h' ((l, listOf (List.toArray its) ep) :: (c', oc) :: gg (tab1 49 4 c')) → OffL l news → NeA c' 73 → NeA c' 80 → NeI c' I → NeA c' l → Q (.ref l) { s with heap := h', toks := tk' }) :
    wpAny (model PySem.Challenge.rw_xg0080_01.row.prog w) (ktrTop dp un gd cn cs L ad ccd cl outer) (call (.ref 78) [.int a ta, .int (n : Int) tn]) Q E s := by
  obtain ⟨own, rest, e1, hg, u1, u2⟩ := U.split
  have q7 : (73, o7) ∈ news := by rw [e1]; exact List.mem_append_right _ (.head _)
  rcases ht with rfl | ⟨rfl, vs, t, d1, d2⟩
  · refine use_i2_miss B F X T hk N U h0 fun l its ep c' oc vs t h' tk' hI d1 d2 F' N' l1 l2 => ?_
    refine h l its ep c' oc vs t h' tk' hI d1 d2 F' N' ⟨l1⟩ ⟨fun q => l2 _ q7 q.symm⟩ ⟨fun q => l2 _ h8 q.symm⟩ ⟨fun q => l2 _ hI' q.symm⟩ ⟨fun q => ?_⟩
    have y1 := (N' _ (.head _)).1
    have y2 := (N' _ (.tail _ (.head _))).1
    rw [q, y1] at y2
    cases y2
    cases d1
  · refine use_i2_hit B F X T hk N U ⟨_, _, _, _, rfl, (N _ hc).1, d1, d2⟩ h0 fun l its ep h' tk' hI F' N' l1 => ?_
    refine h l its ep c7 x7 vs t h' tk' hI d1 d2 F' (fun p hp => ?_) ⟨l1⟩ n7 n8 nI ⟨l1 _ hc⟩
    rcases List.mem_cons.mp hp with rfl | hp
    · exact N' _ (.head _)
    · rcases List.mem_cons.mp hp with rfl | hp
      · refine N' _ (.tail _ ?_)
        rw [hg, ← e1]; exact hc
      · exact N' _ (.tail _ hp)
theorem use_dp_any {a b : Int} {ta tb : Tok} {o8 x8 oc7 oI : Obj} {c7 c8 I : Addr} {vs7 : Array Value} {t7 : Tok} {gg : Obj → List (Addr × Obj)} (B : Below A₀ base outer h₀) (F : Fr h₀ L s.heap m) (X : (Mine.hd.heap_39 w.params).In h₀) (N : News h₀ L s.heap news) (T : Top p loose mean mg mb h₀) (hk : cs.kind = .function)
    (q7 : (73, tab1 49 4 c7) ∈ news) (hc7 : (c7, oc7) ∈ news) (y1 : oc7.data = .fields vs7) (y2 : vs7[1]? = some (.str q73 t7)) (ht : TabAny 64 4 q80 o8 c8 x8) (U : UpdF 80 o8 news gg) (hc : (c8, x8) ∈ news) (n7 : NeA c8 73) (n8 : NeA c8 80) (nI : NeI c8 I) (hI' : (I, oI) ∈ news)
    (h0 : Owe (DpOk a b ∧ dp + 30 < recursionLimit ∧ un + 400 < cLine))
    (h : ∀ T' q r t1 t2 c' oc vs tc h' tk', q = a / b → r = a % b → oc.data = .fields vs → vs[1]? = some (.str q80 tc) → Fr h₀ L h' m → News h₀ L h' ((T', tup2 q r t1 t2) :: (c', oc) :: gg (tab1 64 4 c')) → OffL T' news → NeA c' 73 → NeA c' 80 → NeI c' I → NeA c' T' → Q (.ref T') { s with heap := h', toks := tk' }) :
    wpAny (model PySem.Challenge.rw_xg0080_01.row.prog w) (ktrTop dp un gd cn cs L ad ccd cl outer) (call (.ref 92) [.int a ta, .int b tb]) Q E s := by
  obtain ⟨own, rest, e1, hg, u1, u2⟩ := U.split
  have q8 : (80, o8) ∈ news := by rw [e1]; exact List.mem_append_right _ (.head _)
  have hr7 : s.heap.CodeRec (.ref c7) q73 := codeRec_in N hc7 y1 y2
  rcases ht with rfl | ⟨rfl, vs, t, d1, d2⟩
  · refine use_dp_miss B F X N T hk q7 hr7 U h0 fun T' q r t1 t2 c' oc vs tc h' tk' eq er d1 d2 F' N' l1 l2 => ?_
    refine h T' q r t1 t2 c' oc vs tc h' tk' eq er d1 d2 F' N' ⟨l1⟩ ⟨fun q => l2 _ q7 q.symm⟩ ⟨fun q => l2 _ q8 q.symm⟩ ⟨fun q => l2 _ hI' q.symm⟩ ⟨fun q => ?_⟩
    have y1 := (N' _ (.head _)).1
    have y2 := (N' _ (.tail _ (.head _))).1
    rw [q, y1] at y2
    cases y2
    cases d1
  · refine use_dp_hit B F X N T hk q7 hr7 q8 ⟨_, _, _, _, rfl, (N _ hc).1, d1, d2⟩ h0 fun T' q r t1 t2 h' tk' eq er F' N' l1 => ?_
    refine h T' q r t1 t2 c8 x8 vs t h' tk' eq er d1 d2 F' (fun p hp => ?_) ⟨l1⟩ n7 n8 nI ⟨l1 _ hc⟩
    rcases List.mem_cons.mp hp with rfl | hp
    · exact N' _ (.head _)
    · rcases List.mem_cons.mp hp with rfl | hp
      · exact N' _ (.tail _ hc)
      · rw [hg, ← e1] at hp
        exact N' _ (.tail _ hp)
end
section
variable {prog : Program} {w : World} {A : Around} {E : Value → Shared → Prop} {s : Shared} {env : Env} {h₀ : Heap} {body : List Stmt} {Q : Flow → Shared → Prop} {m₀ : Str → Option Value} {news : List (Addr × Obj)}
theorem rng_dn {x : Str} {px : Pos} {ta tb tc : Tok} (hh : A.handled = none) (F : Fr h₀ env.locals s.heap m₀) (N : News h₀ env.locals s.heap news)
    (J : Addr → Nat → (Str → Option Value) → List (Addr × Obj) → Prop) (h0 : ∀ I, (∀ p ∈ news, p.1 < I) → J I 0 m₀ news) (hJ : ∀ I i m n₁, J I i m n₁ → ∀ p ∈ n₁, p.1 ≠ I)
    (turn : ∀ I i t m₁ n₁ h tk it, i < 5 → J I i m₁ n₁ → it.cls = .type "range_iterator" → Fr h₀ env.locals h m₁ → News h₀ env.locals h ((I, it) :: n₁) →
      wpAny (model prog w) A (assign (.Name x px) env (.int ((4 - i : Nat) : Int) t)) (fun _ s₃ => wpAny (model prog w) A (execs body env) (TEnd h₀ env.locals [(I, it)] (J I (i + 1)) { s with heap := h, toks := tk } Q) E s₃) E { s with heap := h, toks := tk })
    (done : ∀ I m₁ n₁ h tk, J I 5 m₁ n₁ → Fr h₀ env.locals h m₁ → News h₀ env.locals h n₁ → Q .next { s with heap := h, toks := tk }) :
    wpAny (model prog w) A (call (.type "range") [.int 4 ta, .int (-1) tb, .int (-1) tc]) (fun xv s₁ => wpAny (model prog w) A (pyIter xv) (fun it s₂ => TurnsAt prog w A h₀ env (.Name x px) body Q E it s₂) E s₁) E s := by
  have hLs : env.locals < s.heap.objs.size := F.ns.lt
  have hoff : ∀ p ∈ news, p.1 < s.heap.objs.size := fun p hp => Heap.lt_size (N p hp).1
  refine call_range_3 (by decide) ?_
  refine wpAny_pyIter_range (IsRange.new s.heap 4 (-1) (-1) ta tb tc) (by decide) ?_
  have z1 : (s.heap.push { cls := .type "range", data := .fields #[.int 4 ta, .int (-1) tb, .int (-1) tc] }).objs.size = s.heap.objs.size + 1 := Heap.size_push ..
  have F1 := F.push { cls := .type "range", data := .fields #[.int 4 ta, .int (-1) tb, .int (-1) tc] }
  have N1 := N.grown (h' := s.heap.push { cls := .type "range", data := .fields #[.int 4 ta, .int (-1) tb, .int (-1) tc] }) fun b o e => Heap.get?_push_of_some _ e
  rw [z1]
  refine turns_J (tk0 := s.toks) (n := 5) (ws := [(s.heap.objs.size + 1, "range_iterator")]) (keep := []) (KTurns.ofWalks (Walks.range hh (s.heap.objs.size + 1) 4 (-1) 5) fun i v s Q E st q => wpAny_pure q)
    ?_ ?_ ?_ ?_ ?_ ?_ (F1.push _) (fun p hp => ⟨Heap.get?_push_of_some _ (N1 p hp).1, (N1 p hp).2⟩) (J (s.heap.objs.size + 1)) (h0 _ fun p hp => Nat.lt_succ_of_lt (hoff p hp)) (fun i m₁ n₁ hj => ⟨fun p hp hq => hJ _ _ _ _ hj p hp (by simpa using hq), fun p hp => nomatch hp⟩) ?_ ?_
  · rintro i h hit
    have : ∃ o : Obj, h.get? (s.heap.objs.size + 1) = some o ∧ o.cls = .type "range_iterator" := ⟨_, hit, rfl⟩
    obtain ⟨it, h1, h2⟩ := this
    exact ⟨[(s.heap.objs.size + 1, it)], ⟨⟨rfl, h2⟩, trivial⟩, fun p hp => by rw [List.mem_singleton.mp hp]; exact h1⟩
  · intro b hb
    have e : b = s.heap.objs.size + 1 := by simpa using hb
    subst e
    exact ⟨by simp, ktu_new F (Nat.le_add_right _ _)⟩
  · intro b hb; simpa using hb
  · intro b hb
    exact .inl (by simpa using hb)
  · intro hm
    exact ktu_ne 1 hLs (List.mem_singleton.mp hm)
  · have := Heap.get?_push_size (s.heap.push { cls := .type "range", data := .fields #[.int 4 ta, .int (-1) tb, .int (-1) tc] }) (o := { cls := .type "range_iterator", data := .fields #[rawInt 4, rawInt (Builtin.Range.rangeSize 4 (-1) (-1)), rawInt (-1)] }) rfl
    rw [z1] at this
    have e5 : Builtin.Range.rangeSize 4 (-1) (-1) = 5 := by decide
    show Heap.get? _ _ = _
    rw [e5] at this ⊢
    simpa using this
  · rintro i v m₁ n₁ h tk hi ⟨t, rfl⟩ hj F₁
    have e : (4 : Int) + (i : Int) * (-1) = ((4 - i : Nat) : Int) := by omega
    rw [e]
    exact fun it hit => fun N₁ => turn (s.heap.objs.size + 1) i t m₁ n₁ h tk it hi hj hit F₁ N₁
  · intro m₁ n₁ h tk hj F₁ N₁
    exact done _ m₁ n₁ h tk hj F₁ N₁
abbrev lwMap (m₀ : Str → Option Value) (D : Addr) (n : Nat) (host lead : Str) (num : Int) (tw th tl tn : Tok) (u1 u2 u3 u4 u5 u6 u7 : Option Value) : Str → Option Value := fun y =>
  if y = Str.ofString "coins" then some (.ref D) else if y = Str.ofString "width" then some (.int (n : Int) tw) else if y = Str.ofString "host" then some (.str host th) else if y = Str.ofString "lead" then some (.str lead tl) else if y = Str.ofString "number" then some (.int num tn)
  else if y = Str.ofString "left" then u1 else if y = Str.ofString "ways" then u2 else if y = Str.ofString "indent" then u3 else if y = Str.ofString "found" then u4 else if y = Str.ofString "last" then u5 else if y = Str.ofString "over" then u6 else if y = Str.ofString "runs" then u7 else m₀ y
structure LwVars (m : Str → Option Value) (D : Addr) (n : Nat) (host lead : Str) (num : Int) : Prop where
  d : m (Str.ofString "coins") = some (.ref D)
  w : ∃ t, m (Str.ofString "width") = some (.int (n : Int) t)
  h : ∃ t, m (Str.ofString "host") = some (.str host t)
  l : ∃ t, m (Str.ofString "lead") = some (.str lead t)
  n : ∃ t, m (Str.ofString "number") = some (.int num t)
theorem lwMap_eq {m : Str → Option Value} {D : Addr} {n : Nat} {host lead : Str} {num : Int} (v : LwVars m D n host lead num) : ∃ tw th tl tn, m = lwMap m D n host lead num tw th tl tn (m (Str.ofString "left")) (m (Str.ofString "ways")) (m (Str.ofString "indent")) (m (Str.ofString "found")) (m (Str.ofString "last")) (m (Str.ofString "over")) (m (Str.ofString "runs")) := by
  obtain ⟨d, ⟨tw, hw⟩, ⟨th, hh⟩, ⟨tl, hl⟩, ⟨tn, hn⟩⟩ := v
  refine ⟨tw, th, tl, tn, ?_⟩
  funext y
  unfold lwMap
  by_cases c0 : y = Str.ofString "coins"
  · rw [if_pos c0, c0, d]
  rw [if_neg c0]
  by_cases c1 : y = Str.ofString "width"
  · rw [if_pos c1, c1, hw]
  rw [if_neg c1]
  by_cases c2 : y = Str.ofString "host"
  · rw [if_pos c2, c2, hh]
  rw [if_neg c2]
  by_cases c3 : y = Str.ofString "lead"
  · rw [if_pos c3, c3, hl]
  rw [if_neg c3]
  by_cases c4 : y = Str.ofString "number"
  · rw [if_pos c4, c4, hn]
  rw [if_neg c4]
  by_cases c5 : y = Str.ofString "left"
  · rw [if_pos c5, c5]
  rw [if_neg c5]
  by_cases c6 : y = Str.ofString "ways"
  · rw [if_pos c6, c6]
  rw [if_neg c6]
  by_cases c7 : y = Str.ofString "indent"
  · rw [if_pos c7, c7]
  rw [if_neg c7]
  by_cases c8 : y = Str.ofString "found"
  · rw [if_pos c8, c8]
  rw [if_neg c8]
  by_cases c9 : y = Str.ofString "last"
  · rw [if_pos c9, c9]
  rw [if_neg c9]
  by_cases c10 : y = Str.ofString "over"
  · rw [if_pos c10, c10]
  rw [if_neg c10]
  by_cases c11 : y = Str.ofString "runs"
  · rw [if_pos c11, c11]
  rw [if_neg c11]
/-- what a turn of the law's loop leaves -/
def LwEnd (h₀ : Heap) (L I : Addr) (it : Obj) (D : Addr) (lv : List Value) (ep : Nat) (cs : List Int) (n k : Nat) (s : Shared) (f : Flow) (s₂ : Shared) : Prop :=
  f = .next ∧ ∃ h' tk' m' o7 o8 c7 x7 c8 x8 rs, s₂ = { s with heap := h', toks := tk' } ∧ Fr h₀ L h' m' ∧ News h₀ L h' [(I, it), (D, listOf (List.toArray lv) ep), (73, o7), (80, o8), (c7, x7), (c8, x8)] ∧ TabAny 49 4 q73 o7 c7 x7 ∧ TabAny 64 4 q80 o8 c8 x8 ∧ (∃ ps, o7 = tabObj ps) ∧ (∃ ps, o8 = tabObj ps) ∧
    NeA c7 73 ∧ NeA c7 80 ∧ NeA c8 73 ∧ NeA c8 80 ∧ NeI c7 I ∧ NeI c8 I ∧ rs.Perm (cs.take k) ∧ LwVars m' D n (hostS (nats (cs.take k))) (leadS rs) (numOf n (cs.take k))
theorem tabAny_obj {x y : Int} {q : Str} {o oc : Obj} {c : Addr} (h : TabAny x y q o c oc) : ∃ ps, o = tabObj ps := by
  rcases h with rfl | ⟨rfl, _⟩
  · exact ⟨_, rfl⟩
  · exact ⟨_, rfl⟩
/-- one turn of the law's second loop, for every coin count left -/
def TurnB (prog : Program) (w : World) (A : Around) (h₀ : Heap) (env : Env) (L : Addr) (x : Str) (px : Pos) (body : List Stmt) (s : Shared) (E : Value → Shared → Prop) : Prop :=
    ∀ (I : Addr) (k : Nat) (t : Tok) (cs : List Int) (lv : List Value) (ep n : Nat) (D : Addr) (m₁ : Str → Option Value) (rs : List Int) (o7 o8 : Obj) (c7 : Addr) (x7 : Obj) (c8 : Addr) (x8 : Obj) (tw th tl tn : Tok) (u1 u2 u3 u4 u5 u6 u7 : Option Value) (h : Heap) (tk : Nat) (it : Obj),
      k ≤ 4 → WaysOk cs → cs.length = 4 → IntsAre lv cs → 5 ≤ n → n ≤ 1004 → rs.Perm (cs.take k) → TabAny 49 4 q73 o7 c7 x7 → TabAny 64 4 q80 o8 c8 x8 →
      NeA D 73 → NeA D 80 → NeA D I → NeA I 73 → NeA I 80 → NeA c7 73 → NeA c7 80 → NeA c8 73 → NeA c8 80 → NeI c7 I → NeI c8 I → it.cls = .type "range_iterator" →
      Fr h₀ L h (lwMap m₁ D n (hostS (nats (cs.take k))) (leadS rs) (numOf n (cs.take k)) tw th tl tn u1 u2 u3 u4 u5 u6 u7) → News h₀ L h [(I, it), (D, listOf (List.toArray lv) ep), (73, o7), (80, o8), (c7, x7), (c8, x8)] →
      wpAny (model prog w) A (assign (.Name x px) env (.int (k : Int) t)) (fun _ s₃ => wpAny (model prog w) A (execs body env) (LwEnd h₀ L I it D lv ep cs n (k - 1) s) E s₃) E { s with heap := h, toks := tk }
/-- the law's second loop -/
theorem lw_loop {x : Str} {px : Pos} {ta tb tc tw : Tok} {D : Addr} {lv : List Value} {ep : Nat} {wd : Int} {cs : List Int} {host lead : Str} {num : Int} (hh : A.handled = none) (F : Fr h₀ env.locals s.heap m₀) (N : News h₀ env.locals s.heap news)
    (hm : (D, listOf (List.toArray lv) ep) ∈ news) (h7 : (73, tabObj #[]) ∈ news) (h8 : (80, tabObj #[]) ∈ news) (hI : IntsAre lv cs) (n7 : @Ne Nat D 73) (n8 : @Ne Nat D 80)
    (hd : m₀ (Str.ofString "coins") = some (.ref D)) (hw : m₀ (Str.ofString "width") = some (.int wd tw)) (hv : ∃ th tl tn, m₀ (Str.ofString "host") = some (.str host th) ∧ m₀ (Str.ofString "lead") = some (.str lead tl) ∧ m₀ (Str.ofString "number") = some (.int num tn))
    (h0 : Owe (WaysOk cs ∧ cs.length = 4 ∧ (5 ≤ wd ∧ wd ≤ 1004) ∧ host = hostS (nats cs) ∧ (∃ rs, rs.Perm cs ∧ lead = leadS rs) ∧ num = numOf wd cs))
    (turn : Later (TurnB prog w A h₀ env env.locals x px body s E))
    (done : ∀ m₁ ps7 ps8 h tk, Fr h₀ env.locals h m₁ → News h₀ env.locals h [(73, tabObj ps7), (80, tabObj ps8)] → Q .next { s with heap := h, toks := tk }) :
    wpAny (model prog w) A (call (.type "range") [.int 4 ta, .int (-1) tb, .int (-1) tc]) (fun xv s₁ => wpAny (model prog w) A (pyIter xv) (fun it s₂ => TurnsAt prog w A h₀ env (.Name x px) body Q E it s₂) E s₁) E s := by
  obtain ⟨ok, l4, ⟨w1, w2⟩, e2, ⟨rs₀, p0, e3⟩, e4⟩ := h0.out
  obtain ⟨n, e1⟩ := Int.eq_ofNat_of_zero_le (show 0 ≤ wd by omega)
  subst e1 e2 e3 e4
  replace w1 : 5 ≤ n := by omega
  replace w2 : n ≤ 1004 := by omega
  refine rng_dn hh F (fun p hp => N p (by
      simp only [List.mem_cons, List.not_mem_nil, or_false] at hp
      rcases hp with rfl | rfl | rfl | rfl | rfl
      · exact hm
      · exact h7
      · exact h8
      · exact hm
      · exact hm) : News h₀ env.locals s.heap [(D, listOf (List.toArray lv) ep), (73, tabObj #[]), (80, tabObj #[]), (D, listOf (List.toArray lv) ep), (D, listOf (List.toArray lv) ep)])
    (fun I i m nw => @Ne Nat D I ∧ @Ne Nat I 73 ∧ @Ne Nat I 80 ∧ ∃ o7 o8 c7 x7 c8 x8 rs, nw = [(D, listOf (List.toArray lv) ep), (73, o7), (80, o8), (c7, x7), (c8, x8)] ∧ TabAny 49 4 q73 o7 c7 x7 ∧ TabAny 64 4 q80 o8 c8 x8 ∧
      @Ne Nat c7 73 ∧ @Ne Nat c7 80 ∧ @Ne Nat c8 73 ∧ @Ne Nat c8 80 ∧ @Ne Nat c7 I ∧ @Ne Nat c8 I ∧ rs.Perm (cs.take (4 - i)) ∧ LwVars m D n (hostS (nats (cs.take (4 - i)))) (leadS rs) (numOf n (cs.take (4 - i)))) ?_ ?_ ?_ ?_
  · intro I hlt
    have a1 : D < I := hlt (D, listOf (List.toArray lv) ep) (.head _)
    have a2 : 73 < I := hlt (73, tabObj #[]) (.tail _ (.head _))
    have a3 : 80 < I := hlt (80, tabObj #[]) (.tail _ (.tail _ (.head _)))
    have tk : cs.take (4 - 0) = cs := List.take_of_length_le (by omega)
    refine ⟨Nat.ne_of_lt a1, (Nat.ne_of_lt a2).symm, (Nat.ne_of_lt a3).symm, _, _, _, _, _, _, rs₀, rfl, .inl rfl, .inl rfl, n7, n8, n7, n8, Nat.ne_of_lt a1, Nat.ne_of_lt a1, by rw [tk]; exact p0, ?_⟩
    rw [tk]
    obtain ⟨th, tl, tn, v1, v2, v3⟩ := hv
    exact ⟨hd, ⟨_, hw⟩, ⟨_, v1⟩, ⟨_, v2⟩, ⟨_, v3⟩⟩
  · rintro I i m nw ⟨a1, a2, a3, o7, o8, c7, x7, c8, x8, rs, rfl, _, _, _, _, _, _, b1, b2, _⟩ p hp
    simp only [List.mem_cons, List.not_mem_nil, or_false] at hp
    rcases hp with rfl | rfl | rfl | rfl | rfl
    · exact a1
    · exact fun q => a2 q.symm
    · exact fun q => a3 q.symm
    · exact b1
    · exact b2
  · rintro I i t m₁ nw h tk it hi ⟨a1, a2, a3, o7, o8, c7, x7, c8, x8, rs, rfl, t7, t8, b1, b2, b3, b4, b5, b6, pm, v⟩ hcls F₁ N₁
    obtain ⟨tw', th', tl', tn', em⟩ := lwMap_eq v
    rw [em] at F₁
    refine wpAny_mono (turn.out I (4 - i) t cs lv ep n D m₁ rs o7 o8 c7 x7 c8 x8 tw' th' tl' tn' _ _ _ _ _ _ _ h tk it (by omega) ok l4 hI w1 w2 pm t7 t8 ⟨n7⟩ ⟨n8⟩ ⟨a1⟩ ⟨a2⟩ ⟨a3⟩ ⟨b1⟩ ⟨b2⟩ ⟨b3⟩ ⟨b4⟩ ⟨b5⟩ ⟨b6⟩ hcls F₁ N₁) (fun _ s₂ h₂ => wpAny_mono h₂ (fun f s₃ q => ?_) fun _ _ e => e) fun _ _ e => e
    obtain ⟨rfl, h', tk', m', o7', o8', c7', x7', c8', x8', rs', rfl, F', N', t7', t8', _, _, d1, d2, d3, d4, d5, d6, pm', v'⟩ := q
    have ek : 4 - i - 1 = 4 - (i + 1) := by omega
    rw [ek] at pm' v'
    exact ⟨h', tk', m', _, rfl, F', N', a1, a2, a3, o7', o8', c7', x7', c8', x8', rs', rfl, t7', t8', d1.out, d2.out, d3.out, d4.out, d5.out, d6.out, pm', v'⟩
  · rintro I m₁ nw h tk ⟨a1, a2, a3, o7, o8, c7, x7, c8, x8, rs, rfl, t7, t8, _⟩ F₁ N₁
    obtain ⟨ps7, rfl⟩ := tabAny_obj t7
    obtain ⟨ps8, rfl⟩ := tabAny_obj t8
    exact done m₁ ps7 ps8 h tk F₁ fun p hp => N₁ p (by
      rcases List.mem_cons.mp hp with rfl | hp
      · exact .tail _ (.head _)
      · rw [List.mem_singleton.mp hp]; exact .tail _ (.tail _ (.head _)))
end
end Mine
end

section
open PySem PySem.W PyProof.Rows PySem.Calls
set_option Elab.async false
set_option maxRecDepth 100000
set_option linter.unusedVariables false
namespace Mine
theorem strs_len {vs : List Value} {xs : List Str} (h : StrsAre vs xs) : vs.length = xs.length := by
  induction h with
  | nil => rfl
  | cons y t _ ih => simp [ih]
theorem strs_at {vs : List Value} {xs : List Str} (h : StrsAre vs xs) : ∀ (i : Nat) (v : Value), vs[i]? = some v → ∃ y t, v = .str y t ∧ xs[i]? = some y := by
  induction h with
  | nil => intro i v e; simp at e
  | cons y t _ ih =>
    intro i v e
    cases i with
    | zero => simp at e; exact ⟨y, t, e.symm, by simp⟩
    | succ i => exact ih i v (by simpa using e)
theorem strs_snoc {y : Str} {t : Tok} : ∀ {vs : List Value} {ys : List Str}, StrsAre vs ys → StrsAre (vs ++ [.str y t]) (ys ++ [y])
  | _, _, .nil => .cons y t .nil
  | _, _, .cons z u r => .cons z u (strs_snoc r)
theorem strs_take {vs : List Value} {xs : List Str} (h : StrsAre vs xs) : ∀ k, StrsAre (vs.take k) (xs.take k) := by
  induction h with
  | nil => intro k; cases k <;> exact .nil
  | cons y t _ ih => intro k; cases k with
    | zero => exact .nil
    | succ k => exact .cons y t (ih k)
/-- an element's end: a text, the heap as it was -/
def TxtEnd (s : Shared) (g : Str) (y : Value) (s₂ : Shared) : Prop := ∃ tk t, s₂ = { s with toks := tk } ∧ y = .str g t
section
variable {prog : Program} {w : World} {A : Around} {h₀ : Heap} {L : Addr} {m : Str → Option Value} {env : Env} {elt : Expr} {x : Str} {scope : Scope} {cl : List (Str × Addr)} {s : Shared} {S : List (Addr × Obj) → Prop} {P : Nat → Value → Prop} {Fin : List Value → List (Addr × Obj) → Prop} {news : List (Addr × Obj)}
theorem lc_rest {n : Nat} {gs : List Str} (hgs : gs.length = n) (hS : S news)
    (turn : ∀ i g v I oI C oC D m₂ ys h tk (E' : Value → Shared → Prop), gs[i]? = some g → P i v → LCg.NsObj oC m₂ → m₂ x = some v → Fr h₀ L h m → News h₀ L h ((I, oI) :: (C, oC) :: (D, LCg.lst ys) :: news) → LCg.Off3 I C D news → ((@Ne Nat I C) ∧ (@Ne Nat I D) ∧ (@Ne Nat C D)) →
      wpAny (model prog w) A (eval elt (compEnvC scope cl C env)) (TxtEnd { s with heap := h, toks := tk } g) E' { s with heap := h, toks := tk })
    (fin : ∀ ys, StrsAre ys gs → Fin ys news) : LCg.CompRest prog w A h₀ L m env elt x scope cl s S P Fin n 0 [] news := by
  have key : ∀ (j i : Nat) (ys : List Value), i + j = n → StrsAre ys (gs.take i) → LCg.CompRest prog w A h₀ L m env elt x scope cl s S P Fin j i ys news := by
    intro j
    induction j with
    | zero =>
      intro i ys hi hy
      have e : i = gs.length := by lia
      subst e
      rw [List.take_length] at hy
      exact LCg.CompRest.zero (fin ys hy)
    | succ j ih =>
      intro i ys hi hy
      refine LCg.CompRest.succ ?_
      intro v I oI C oC D m₂ h tk E' hv hC hx F N off ne
      have hlt : i < gs.length := by lia
      have hk := List.getElem?_eq_getElem hlt
      refine wpAny_mono (turn i _ v I oI C oC D m₂ ys h tk E' hk hv hC hx F N off ne) (fun y s₂ hq => ?_) fun _ _ e => e
      obtain ⟨tk', t', e, hy'⟩ := hq
      refine ⟨h, tk', news, e, F, N, off, hS, ?_⟩
      rw [hy']
      refine ih (i + 1) _ (by lia) ?_
      rw [List.take_add_one, hk]
      exact strs_snoc hy
  exact key n 0 [] (by lia) (by rw [List.take_zero]; exact .nil)
/-- [str(c) for c in ints] -/
theorem lc_ints {Fin : Shared → List Value → List (Addr × Obj) → Prop} {ax : Addr} {vs : List Value} {ns : List Int} {k : Nat}
    (hh : A.handled = none) (F : Fr h₀ L s.heap m) (N : News h₀ L s.heap news) (hm : (ax, listOf (List.toArray vs) k) ∈ news) (hi : IntsAre vs ns) (h0 : Owe (ns.length ≤ 1000 ∧ ∀ c ∈ ns, 1 ≤ c ∧ c ≤ 8))
    (turn : ∀ g c t I oI C oC D m₂ ys h tk (E' : Value → Shared → Prop), 1 ≤ c → c ≤ 8 → LCg.NsObj oC m₂ → m₂ x = some (.int c t) → Fr h₀ L h m → News h₀ L h ((I, oI) :: (C, oC) :: (D, LCg.lst ys) :: news) → LCg.Off3 I C D news → ((@Ne Nat I C) ∧ (@Ne Nat I D) ∧ (@Ne Nat C D)) →
      wpAny (model prog w) A (eval elt (compEnvC scope cl C env)) (TxtEnd { { s with heap := g } with heap := h, toks := tk } (Str.ofString (toString c))) E' { { s with heap := g } with heap := h, toks := tk })
    (fin : ∀ g ys, StrsAre ys (ns.map fun c => Str.ofString (toString c)) → Fin { s with heap := g } ys news) : LCg.CompSrc prog w A h₀ L m env elt x scope cl Fin (.ref ax) s := by
  have hl : vs.toArray.size = ns.length := by rw [List.size_toArray]; exact hi.length
  refine LCg.CompSrc.ledger hh F N hm (by rw [hl, sizeLine_eq]; have := h0.out.1; lia) fun g => ?_
  refine lc_rest (gs := ns.map fun c => Str.ofString (toString c)) (by rw [List.length_map, hl]) (.inr ⟨_, hm, rfl, _, rfl⟩) (fun i t v I oI C oC D m₂ ys h tk E' hg hv hC hx F N off ne => ?_) (fin g)
  obtain ⟨c, tc, rfl, hc⟩ := hi.at i v (by simpa using hv)
  rw [List.getElem?_map, hc] at hg
  cases hg
  have hb := h0.out.2 c (List.mem_of_getElem? hc)
  exact turn g c tc I oI C oC D m₂ ys h tk E' hb.1 hb.2 hC hx F N off ne
/-- [run + z for run in texts] -/
theorem lc_strs {Fin : Shared → List Value → List (Addr × Obj) → Prop} {ax : Addr} {vs : List Value} {ns : List Str} {k : Nat} (z : Str)
    (hh : A.handled = none) (F : Fr h₀ L s.heap m) (N : News h₀ L s.heap news) (hm : (ax, listOf (List.toArray vs) k) ∈ news) (hi : StrsAre vs ns) (h0 : Owe (ns.length ≤ 1000 ∧ ∀ c ∈ ns, c.length ≤ 1000))
    (turn : ∀ g c t I oI C oC D m₂ ys h tk (E' : Value → Shared → Prop), c.length ≤ 1000 → LCg.NsObj oC m₂ → m₂ x = some (.str c t) → Fr h₀ L h m → News h₀ L h ((I, oI) :: (C, oC) :: (D, LCg.lst ys) :: news) → LCg.Off3 I C D news → ((@Ne Nat I C) ∧ (@Ne Nat I D) ∧ (@Ne Nat C D)) →
      wpAny (model prog w) A (eval elt (compEnvC scope cl C env)) (TxtEnd { { s with heap := g } with heap := h, toks := tk } (c ++ z)) E' { { s with heap := g } with heap := h, toks := tk })
    (fin : ∀ g ys, StrsAre ys (ns.map fun c => c ++ z) → Fin { s with heap := g } ys news) : LCg.CompSrc prog w A h₀ L m env elt x scope cl Fin (.ref ax) s := by
  have hl : vs.toArray.size = ns.length := by rw [List.size_toArray]; exact strs_len hi
  refine LCg.CompSrc.ledger hh F N hm (by rw [hl, sizeLine_eq]; have := h0.out.1; lia) fun g => ?_
  refine lc_rest (gs := ns.map fun c => c ++ z) (by rw [List.length_map, hl]) (.inr ⟨_, hm, rfl, _, rfl⟩) (fun i t v I oI C oC D m₂ ys h tk E' hg hv hC hx F N off ne => ?_) (fin g)
  obtain ⟨c, tc, rfl, hc⟩ := strs_at hi i v (by simpa using hv)
  rw [List.getElem?_map, hc] at hg
  cases hg
  exact turn g c tc I oI C oC D m₂ ys h tk E' (h0.out.2 c (List.mem_of_getElem? hc)) hC hx F N off ne
end
section
variable {prog : Program} {w : World} {A : Around} {E : Value → Shared → Prop} {s : Shared} {h₀ : Heap} {L : Addr} {m : Str → Option Value} {news : List (Addr × Obj)} {Q : Value → Shared → Prop}
/-- [x] + texts -/
theorem g_addS {l b : Addr} {x : Str} {t : Tok} {ws : List Value} {ys : List Str} {k1 k2 : Nat} (F : Fr h₀ L s.heap m) (N : News h₀ L s.heap news) (hm1 : (l, listOf #[.str x t] k1) ∈ news) (hm2 : (b, listOf (List.toArray ws) k2) ∈ news) (hi : StrsAre ws ys) (h0 : Owe (ys.length ≤ 1000))
    (h : ∀ l' h' vs', StrsAre vs' (x :: ys) → Fr h₀ L h' m → News h₀ L h' ((l', listOf (List.toArray vs') 0) :: news) → (∀ p ∈ news, p.1 < l') → Q (.ref l') { s with heap := h' }) :
    wpAny (model prog w) A (binaryOp .Add (.ref l) (.ref b)) Q E s :=
  add_lists (vs := [.str x t]) (hsz := by rw [sizeLine_eq]; have := h0.out; have := strs_len hi; simp only [List.length_singleton]; lia) F N ⟨_, (N _ hm1).1, rfl, _, rfl⟩ ⟨_, (N _ hm2).1, rfl, _, rfl⟩
    fun h' F' N' => h _ h' _ (.cons x t hi) F' N' fun p hp => Heap.lt_size (N p hp).1
theorem g_join {D : Addr} {sep : Str} {t : Tok} {vs : List Value} {xs : List Str} {k : Nat} (N : News h₀ L s.heap news) (hm : (D, listOf (List.toArray vs) k) ∈ news) (hi : StrsAre vs xs) (h0 : Owe ((xs.map (·.length)).sum + xs.length ≤ 100000 ∧ sep.length ≤ 16))
    (h : ∀ t' tk, Q (.str (Txt.join sep xs) t') { s with toks := tk }) : wpAny (model prog w) A (call (.builtin "str.join") [.str sep t, .ref D]) Q E s :=
  join_listW ⟨_, (N _ hm).1, rfl, _, rfl⟩ (by simpa using hi) h0.out.2 (by have := h0.out.1; lia) h
theorem g_neS {x y : Str} {t u : Tok} (h0 : Owe (x = y)) (h : Q (.bool false) s) : wpAny (model prog w) A (compareOp .NotEq (.str x t) (.str y u)) Q E s := by
  refine ne_str ?_
  rw [h0.out, bne_self_eq_false]; exact h
theorem g_neI {x y : Int} {t u : Tok} (h0 : Owe (x = y)) (h : Q (.bool false) s) : wpAny (model prog w) A (compareOp .NotEq (.int x t) (.int y u)) Q E s := by
  refine ne_int ?_
  rw [h0.out, bne_self_eq_false]; exact h
theorem g_isnot {a b : Bool} (h0 : Owe (a = b)) (h : Q (.bool false) s) : wpAny (model prog w) A (compareOp .IsNot (.bool a) (.bool b)) Q E s := by
  rw [h0.out]
  exact wpAny_isNot_self (by rfl) h
theorem g_neL {a b : Addr} {vs us : List Value} {ns ms : List Int} {k1 k2 : Nat} (N : News h₀ L s.heap news) (hm1 : (a, listOf (List.toArray vs) k1) ∈ news) (hm2 : (b, listOf (List.toArray us) k2) ∈ news) (hi : IntsAre vs ns) (hj : IntsAre us ms) (h0 : Owe (ns = ms ∧ A.units + 64 < cLine)) (h : Q (.bool false) s) :
    wpAny (model prog w) A (compareOp .NotEq (.ref a) (.ref b)) Q E s := by
  refine ne_intsK ⟨_, (N _ hm1).1, rfl, _, rfl⟩ hi ⟨_, (N _ hm2).1, rfl, _, rfl⟩ hj h0.out.2 ?_
  rw [h0.out.1]; simpa using h
theorem g_index {l : Addr} {lv : List Value} {k : Nat} {ns : List Int} {x : Int} {t : Tok} (N : News h₀ L s.heap news) (hm : (l, listOf (List.toArray lv) k) ∈ news) (hi : IntsAre lv ns) (h0 : Owe (ns.length ≤ 100000 ∧ ∃ j : Nat, ns[j]? = some x ∧ ∀ i < j, ∀ y, ns[i]? = some y → y ≠ x))
    (h : ∀ j : Nat, ns[j]? = some x → (∀ i < j, ∀ y, ns[i]? = some y → y ≠ x) → Q (.int (j : Int) s.toks) { s with toks := s.toks + 1 }) : wpAny (model prog w) A (call (.builtin "list.index") [.ref l, .int x t]) Q E s := by
  obtain ⟨hz, j, hj, hno⟩ := h0.out
  have hl := hi.length
  have hlt := (List.getElem?_eq_some_iff.mp hj).1
  have at' : ∀ (i : Nat) (hi' : i < lv.toArray.size), ∃ y u, lv.toArray[i] = .int y u ∧ ns[i]? = some y := fun i hi' => by
    obtain ⟨y, u, e, hy⟩ := hi.at i _ (List.getElem?_eq_getElem (by simpa using hi'))
    exact ⟨y, u, by simpa using e, hy⟩
  refine call_meets PySem.F.slot_list_index ⟨_, (N _ hm).1, rfl⟩ PySem.F.entry_list_index (PySem.F.args_list_index_2 _ _)
    (MeetsSeq.list_index l lv.toArray k (.int x t) (fun v => match v with | .int y _ => y == x | _ => false) (fun y hy => ?_) j (by simp; lia) (by lia) ?_ (fun i hi' hij => ?_)) ⟨(N _ hm).1, h j hj hno⟩
  · obtain ⟨i, hi', rfl⟩ := Array.mem_iff_getElem.mp hy
    obtain ⟨y, u, e, _⟩ := at' i hi'
    rw [e]
    exact MeetsSeq.EqGives.int y x u t
  · obtain ⟨y, u, e, hy⟩ := at' j (by simp; lia)
    rw [e]
    rw [hj] at hy
    cases hy
    exact beq_self_eq_true x
  · obtain ⟨y, u, e, hy⟩ := at' i hi'
    rw [e]
    show (y == x) = false
    rw [beq_eq_false_iff_ne]
    exact hno i hij y hy
theorem g_split {x y : Str} {t u : Tok} (F : Fr h₀ L s.heap m) (N : News h₀ L s.heap news) (hy : (y.length == 0) = false) (h0 : Owe (x.length ≤ 100000))
    (h : ∀ D vs h' tk, StrsAre vs (Txt.split x y) → Fr h₀ L h' m → News h₀ L h' ((D, listOf (List.toArray vs) 0) :: news) → (∀ p ∈ news, p.1 < D) → Q (.ref D) { s with heap := h', toks := tk }) :
    wpAny (model prog w) A (call (.builtin "str.split") [.str x t, .str y u]) Q E s :=
  KSpl.split1 F N hy (fun D l h' k e hs F' N' l1 => h D (strValues l) h' k (e ▸ hs) F' N' l1) (by rw [sizeLine_eq]; have := h0.out; lia)
/-- texts[:-1] -/
theorem g_sliceS {value slice : PySem.Expr} {l : Addr} {vs : List Value} {xs : List Str} {k : Nat} {tu : Tok} (F : Fr h₀ L s.heap m) (N : News h₀ L s.heap news) (hm : (l, listOf (List.toArray vs) k) ∈ news) (hi : StrsAre vs xs) (h0 : Owe (xs.length ≤ 100000))
    (h : ∀ D vs' h', StrsAre vs' xs.dropLast → Fr h₀ L h' m → News h₀ L h' ((D, listOf (List.toArray vs') 0) :: news) → (∀ p ∈ news, p.1 < D) → Q (.ref D) { s with heap := h' })
    (hs : subscripted slice false (.ref l) (.ref s.heap.objs.size) = operate [.ref s.heap.objs.size, .ref l] (getItem (.ref l) (.ref s.heap.objs.size))) (ht : ∀ r, letTemporaryGo value (.ref l) r = pure ()) :
    wpAny (model prog w) A (subscriptTail value slice (.ref l) (.ref s.heap.objs.size)) Q E { s with heap := s.heap.push { cls := .type "slice", data := .fields #[.none, .int (-1) tu, .none] } } := by
  have hl := strs_len hi
  refine kmk_slice F N ⟨_, (N _ hm).1, rfl, _, rfl⟩ .none (.int _ _) (fun D h' F' N' l1 => h D (vs.take (vs.length - 1)) h' ?_ F' ?_ l1) hs ht (by rw [List.size_toArray, sizeLine_eq]; have := h0.out; lia)
  · rw [List.dropLast_eq_take, ← hl]; exact strs_take hi _
  · have e := slicePick_butLast vs.toArray 1 (Nat.le_refl 1)
    rw [show ((1 : Nat) : Int) = (1 : Int) from rfl] at e
    rw [e] at N'
    simpa using N'
theorem rm_at {x : Str} : ∀ {vs : List Value} {xs : List Str}, StrsAre vs xs → x ∈ xs → ∃ j, ∃ (hj : j < vs.length), (∃ t, vs[j] = .str x t) ∧ (∀ i (hi : i < vs.length), i < j → ∃ y t, vs[i] = .str y t ∧ y ≠ x) ∧ StrsAre (vs.eraseIdx j) (xs.erase x)
  | _, _, .nil, h => by simp at h
  | _, _, .cons (vs := vs) (ys := ys) y t r, h => by
    by_cases e : y = x
    · subst e
      refine ⟨0, by simp, ⟨t, rfl⟩, fun i _ hi => absurd hi (Nat.not_lt_zero i), ?_⟩
      simpa using r
    · have h' : x ∈ ys := by
        rcases List.mem_cons.mp h with q | q
        · exact absurd q.symm e
        · exact q
      obtain ⟨j, hj, ⟨u, hu⟩, hno, he⟩ := rm_at r h'
      refine ⟨j + 1, by simpa using hj, ⟨u, by simpa using hu⟩, fun i hi hij => ?_, ?_⟩
      · cases i with
        | zero => exact ⟨y, t, rfl, e⟩
        | succ i => simpa using hno i (by simpa using hi) (by lia)
      · rw [List.erase_cons_tail (by simpa using e), List.eraseIdx_cons_succ]
        exact .cons y t he
theorem g_remove {D : Addr} {vs : List Value} {n : Nat} {xs : List Str} {x : Str} {t : Tok} {gg : Obj → List (Addr × Obj)} (F : Fr h₀ L s.heap m) (N : News h₀ L s.heap news) (U : UpdF D (listOf (List.toArray vs) n) news gg) (hS : StrsAre vs xs) (h0 : Owe (x ∈ xs ∧ xs.length ≤ 100000))
    (h : ∀ h' vs' ep, StrsAre vs' (xs.erase x) → Fr h₀ L h' m → News h₀ L h' (gg (listOf (List.toArray vs') ep)) → Q .none { s with heap := h' }) : wpAny (model prog w) A (call (.builtin "list.remove") [.ref D, .str x t]) Q E s := by
  have hl := strs_len hS
  have hz := h0.out.2
  obtain ⟨j, hj, ⟨u, hu⟩, hno, he⟩ := rm_at hS h0.out.1
  obtain ⟨pre, post, e1, e2, a', b'⟩ := (upd_of (o' := listOf (List.toArray (vs.eraseIdx j)) (n + 1)) U).split
  subst e1
  have z := N (D, listOf vs.toArray n) (List.mem_append.mpr (.inr (.head _)))
  refine call_meets PySem.F.slot_list_remove ⟨_, z.1, rfl⟩ PySem.F.entry_list_remove (PySem.F.args_list_remove_2 _ _)
    (MeetsSeq.list_remove D vs.toArray n (.str x t) (fun v => match v with | .str y _ => y.cps.toList == x.cps.toList | _ => false) (fun y hy => ?_) j (by simpa using hj) ?_ (fun i hi' hij => ?_) (by rw [List.size_toArray, sizeLine_eq]; lia))
    ⟨z.1, h _ (vs.eraseIdx j) (n + 1) he (F.change (Heap.SameBut.update ..) z.2.1 z.2.2) ?_⟩
  · obtain ⟨i, hi', rfl⟩ := Array.mem_iff_getElem.mp hy
    obtain ⟨y, v, e, _⟩ := strs_at hS i _ (List.getElem?_eq_getElem (by simpa using hi'))
    have e' : vs.toArray[i] = .str y v := by simpa using e
    rw [e']
    exact SeqRoads2.EqGives.str y x v t
  · have e' : vs.toArray[j]'(by simpa using hj) = .str x u := by simpa using hu
    rw [e']
    exact beq_self_eq_true _
  · obtain ⟨y, v, e, hne⟩ := hno i (by simpa using hi') hij
    have e' : vs.toArray[i] = .str y v := by simpa using e
    rw [e']
    show (y.cps.toList == x.cps.toList) = false
    rw [beq_eq_false_iff_ne]
    intro q
    apply hne
    have : y.cps = x.cps := Array.toList_inj.mp q
    cases y; cases x; simp at this; rw [this]
  · rw [e2]
    refine ki_turn _ N a' b' ?_ ?_
    · show vs.toArray.eraseIdxIfInBounds j = (vs.eraseIdx j).toArray
      apply Array.toList_inj.mp
      simp
    · have hq : (vs.eraseIdx j).toArray.size ≠ vs.toArray.size := by
        rw [List.size_toArray, List.size_toArray, List.length_eraseIdx_of_lt hj]; lia
      rw [if_neg (by simpa using hq)]
end
end Mine
end

section
open PySem PySem.W PyProof.Rows PySem.Calls
set_option Elab.async false
set_option maxRecDepth 100000
set_option linter.unusedVariables false
namespace Mine
section
variable {prog : Program} {w : World} {A : Around} {E : Value → Shared → Prop} {s : Shared} {h₀ : Heap} {L : Addr} {m : Str → Option Value} {news : List (Addr × Obj)}
theorem g_searchO {hs : List Nat} {t : Tok} {Q : Value → Shared → Prop} (F : Fr h₀ L s.heap m) (X : (Mine.hd.heap_39 w.params).In h₀) (N : News h₀ L s.heap news) (h0 : Owe (RxOk hs ∧ 1 ≤ hs.length))
    (h : ∀ M T h', Fr h₀ L h' m → News h₀ L h' ((M, matObj (hostS hs) t (5 + 2 * hs.length) T) :: (T, spanTup (5 + 2 * (hs.length - 1)) (5 + 2 * hs.length)) :: news) → (∀ p ∈ news, p.1 < T) → T < M → Q (.ref M) { s with heap := h' }) :
    wpAny (model prog w) A (call (.builtin "re.Pattern.search") [.ref 50, .str (hostS hs) t]) Q E s := g_search F X N h0.out.1 h0.out.2 h
theorem g_mgroup {x : Str} {t : Tok} {lim : Nat} {M T : Addr} {pl : Sem Bool} {Q : Value × List Value → Shared → Prop} (N : News h₀ L s.heap news) (hm : (M, matObj x t lim T) ∈ news) (h : Q (.builtin "re.Match.group", [.ref M]) s) : wpAny (model prog w) A (getMethod (.ref M) "group" pl) Q E s :=
  getMethod_builtin ⟨_, (N _ hm).1, rfl⟩ plain_mat slot_group type_group (fun a e => by cases e; exact ⟨_, (N _ hm).1, rfl⟩) h
theorem g_group {hs : List Nat} {t u : Tok} {lim b e : Nat} {M T : Addr} {Q : Value → Shared → Prop} (N : News h₀ L s.heap news) (hm : (M, matObj (hostS hs) t lim T) ∈ news) (hm2 : (T, spanTup b e) ∈ news) (h0 : Owe (hs.length ≤ 4))
    (h : ∀ t' tk', Q (.str ⟨(hostS hs).cps.extract b e⟩ t') { s with toks := tk' }) : wpAny (model prog w) A (call (.builtin "re.Match.group") [.ref M, .int 0 u]) Q E s :=
  call_group (by rw [hostS_size]; have := h0.out; lia) (N _ hm).1 (N _ hm2).1 h
/-- text[i:] -/
theorem g_slice1 {value slice : PySem.Expr} {x : Str} {t ui : Tok} {i : Int} {Q : Value → Shared → Prop} (F : Fr h₀ L s.heap m) (N : News h₀ L s.heap news) (h0 : Owe (x.length ≤ 1000000))
    (h : ∀ h' t' k, Fr h₀ L h' m → News h₀ L h' news → Q (.str (Txt.slice x (some i) none) t') { s with heap := h', toks := k })
    (hs : subscripted slice false (.str x t) (.ref s.heap.objs.size) = operate [.ref s.heap.objs.size, .str x t] (getItem (.str x t) (.ref s.heap.objs.size))) (ht : ∀ r, letTemporaryGo value (.str x t) r = pure ()) :
    wpAny (model prog w) A (subscriptTail value slice (.str x t) (.ref s.heap.objs.size)) Q E { s with heap := s.heap.push { cls := .type "slice", data := .fields #[.int i ui, .none, .none] } } :=
  slice_strN_sn_len F N (fun h' t' k F' N' _ => h h' t' k F' N') hs ht (by rw [sizeLine_eq]; have := h0.out; lia)
end
theorem hostL_snoc (l : List Nat) (c : Nat) : hostL (l ++ [c]) = hostL l ++ [46, 48 + c] := by
  simp [hostL, hostTail, List.flatMap_append]
theorem fig_text {c : Nat} (h : 1 ≤ c ∧ c ≤ 8) : Str.ofString (toString (c : Int)) = ⟨#[48 + c]⟩ := by
  obtain ⟨h1, h2⟩ := h
  have : c = 1 ∨ c = 2 ∨ c = 3 ∨ c = 4 ∨ c = 5 ∨ c = 6 ∨ c = 7 ∨ c = 8 := by lia
  rcases this with rfl | rfl | rfl | rfl | rfl | rfl | rfl | rfl <;> decide
theorem fig_slice {c : Nat} (h : 1 ≤ c ∧ c ≤ 8) : Txt.slice ⟨#[46, 48 + c]⟩ (some 1) none = ⟨#[48 + c]⟩ := by
  obtain ⟨h1, h2⟩ := h
  have : c = 1 ∨ c = 2 ∨ c = 3 ∨ c = 4 ∨ c = 5 ∨ c = 6 ∨ c = 7 ∨ c = 8 := by lia
  rcases this with rfl | rfl | rfl | rfl | rfl | rfl | rfl | rfl <;> decide
theorem snoc_of {l : List Nat} (h : 1 ≤ l.length) : ∃ i c, l = i ++ [c] ∧ l.getLastD 0 = c := by
  have hne : l ≠ [] := by intro q; rw [q] at h; simp at h
  refine ⟨l.dropLast, l.getLast hne, (List.dropLast_concat_getLast hne).symm, ?_⟩
  rw [List.getLastD_eq_getLast?, List.getLast?_eq_some_getLast hne]; rfl
theorem last_text {hs : List Nat} (hok : RxOk hs) (h1 : 1 ≤ hs.length) :
    Txt.slice ⟨(hostS hs).cps.extract (5 + 2 * (hs.length - 1)) (5 + 2 * hs.length)⟩ (some 1) none = Str.ofString (toString ((hs.getLastD 0 : Nat) : Int)) ∧ (1 ≤ hs.getLastD 0 ∧ hs.getLastD 0 ≤ 8) := by
  obtain ⟨i, c, rfl, hc⟩ := snoc_of h1
  have hb := hok.dig c (by simp)
  rw [hc, fig_text hb]
  refine ⟨?_, hb⟩
  rw [← fig_slice hb]
  congr 2
  show (hostL (i ++ [c])).toArray.extract _ _ = _
  rw [hostL_snoc]
  have hl := hostL_len i
  apply Array.toList_inj.mp
  rw [Array.toList_extract]
  simp only [List.length_append, List.length_singleton, Nat.add_sub_cancel, List.extract_eq_take_drop]
  rw [← hl, List.drop_left]
  have e : 5 + 2 * (i.length + 1) - (hostL i).length = 2 := by lia
  rw [e]; rfl
section
variable {prog : Program} {w : World} {A : Around} {E : Value → Shared → Prop} {s : Shared} {Q : Value → Shared → Prop}
theorem g_intL {hs : List Nat} {t : Tok} (h0 : Owe (RxOk hs ∧ 1 ≤ hs.length)) (h : Q (.int ((hs.getLastD 0 : Nat) : Int) s.toks) { s with toks := s.toks + 1 }) :
    wpAny (model prog w) A (call (.type "int") [.str (Txt.slice ⟨(hostS hs).cps.extract (5 + 2 * (hs.length - 1)) (5 + 2 * hs.length)⟩ (some 1) none) t]) Q E s := by
  obtain ⟨e, b1, b2⟩ := last_text h0.out.1 h0.out.2
  rw [e]
  exact KIN.call_num (by lia) (by lia) h
theorem g_muls {x : Str} {t u : Tok} {n : Int} (h0 : Owe (x.length ≤ 16 ∧ 0 ≤ n ∧ n ≤ 1000)) (h : ∀ t' k, Q (.str (Txt.mul x n) t') { s with toks := k }) : wpAny (model prog w) A (binaryOp .Mult (.str x t) (.int n u)) Q E s :=
  SB.mul (mulOk_of 16 1048576 h0.out.1 (by have := h0.out.2.2; lia) (by have := h0.out.2.1; lia) (by decide) (by decide)) h
end
end Mine
end

section
open PySem PySem.W PyProof.Rows
set_option Elab.async false
set_option maxRecDepth 100000
set_option linter.unusedVariables false
namespace Mine
theorem str_ext {a b : Str} (h : a.cps.toList = b.cps.toList) : a = b := by
  have : a.cps = b.cps := Array.toList_inj.mp h
  cases a; cases b; exact congrArg Str.mk this
theorem app_cps (a b : Str) : (a ++ b).cps.toList = a.cps.toList ++ b.cps.toList := by rw [PySem.Str.cps_append, Array.toList_append]
theorem s_tab : Str.ofString "\t" = ⟨#[9]⟩ := by decide
theorem s_blank : Str.ofString " " = ⟨#[32]⟩ := by decide
theorem s_dot : Str.ofString "." = ⟨#[46]⟩ := by decide
theorem s_nil : Str.ofString "" = ⟨#[]⟩ := by decide
theorem s_x : Str.ofString "x\t " = ⟨#[120, 9, 32]⟩ := by decide
theorem s_purse : Str.ofString "purse" = ⟨#[112, 117, 114, 115, 101]⟩ := by decide
def blanks (r : Int) : Str := Txt.mul (Str.ofString " ") r
theorem blanks_cps (r : Int) : (blanks r).cps.toList = List.replicate r.toNat 32 := by unfold blanks; rw [s_blank, mul_one_list]
theorem blanks_len (r : Int) : (blanks r).length = r.toNat := by
  have := congrArg List.length (blanks_cps r)
  rw [List.length_replicate, Array.length_toList] at this
  exact this
theorem leadS_cps (rs : List Int) : (leadS rs).cps.toList = leadL rs := by simp [leadS]
theorem leadL_cons (r : Int) (rs : List Int) : leadL (r :: rs) = List.replicate r.toNat 32 ++ 9 :: leadL rs := by simp [leadL]
theorem leadL_len {rs : List Int} (h : ∀ r ∈ rs, 1 ≤ r ∧ r ≤ 8) : (leadL rs).length ≤ 9 * rs.length := by
  induction rs with
  | nil => simp [leadL]
  | cons r rs ih =>
    have := ih fun x hx => h x (.tail _ hx)
    have := h r (.head _)
    rw [leadL_cons, List.length_append, List.length_replicate, List.length_cons, List.length_cons]
    lia
theorem leadL_mem {rs : List Int} : ∀ c ∈ leadL rs, c = 32 ∨ c = 9 := by
  induction rs with
  | nil => intro c h; simp [leadL] at h
  | cons r rs ih =>
    intro c h
    rw [leadL_cons] at h
    rcases List.mem_append.mp h with h | h
    · exact .inl (List.mem_replicate.mp h).2
    · rcases List.mem_cons.mp h with h | h
      · exact .inr h
      · exact ih c h
/-- texts joined behind one sign -/
def glue (c : Nat) : List (List Nat) → List Nat
  | [] => []
  | [a] => a
  | a :: b :: r => a ++ c :: glue c (b :: r)
theorem join_cps (c : Nat) : ∀ l : List Str, (Str.join ⟨#[c]⟩ l).cps.toList = glue c (l.map fun x => x.cps.toList)
  | [] => rfl
  | [x] => rfl
  | x :: y :: r => by
    have ih := join_cps c (y :: r)
    show (x ++ ⟨#[c]⟩ ++ Str.join ⟨#[c]⟩ (y :: r)).cps.toList = _
    rw [app_cps, app_cps, ih]
    simp [glue]
theorem app_uniq {c : Nat} : ∀ {a b x y : List Nat}, c ∉ a → c ∉ b → a ++ c :: x = b ++ c :: y → a = b ∧ x = y
  | [], [], x, y, _, _, h => by simpa using h
  | [], b0 :: b, x, y, _, hb, h => by
    simp at h
    exact absurd (h.1 ▸ List.mem_cons_self) hb
  | a0 :: a, [], x, y, ha, _, h => by
    simp at h
    exact absurd (h.1 ▸ List.mem_cons_self) ha
  | a0 :: a, b0 :: b, x, y, ha, hb, h => by
    simp at h
    have := app_uniq (fun q => ha (.tail _ q)) (fun q => hb (.tail _ q)) h.2
    exact ⟨by rw [h.1, this.1], this.2⟩
theorem glue_uniq {c : Nat} : ∀ {A B : List (List Nat)}, A ≠ [] → B ≠ [] → (∀ a ∈ A, c ∉ a) → (∀ b ∈ B, c ∉ b) → glue c A = glue c B → A = B
  | [], _, h, _, _, _, _ => absurd rfl h
  | _, [], _, h, _, _, _ => absurd rfl h
  | [a], [b], _, _, _, _, h => by simpa [glue] using h
  | [a], b :: b' :: r, _, _, ha, _, h => by
    simp only [glue] at h
    exact absurd (by rw [h]; simp) (ha a (.head _))
  | a :: a' :: r, [b], _, _, _, hb, h => by
    simp only [glue] at h
    exact absurd (by rw [← h]; simp) (hb b (.head _))
  | a :: a' :: r, b :: b' :: q, _, _, ha, hb, h => by
    simp only [glue] at h
    have := app_uniq (ha a (.head _)) (hb b (.head _)) h
    have ih := glue_uniq (c := c) (A := a' :: r) (B := b' :: q) (by simp) (by simp) (fun x hx => ha x (.tail _ hx)) (fun x hx => hb x (.tail _ hx)) this.2
    rw [this.1, ih]
theorem glue_lead : ∀ rs : List Int, glue 9 ((rs.map fun r => List.replicate r.toNat 32) ++ [[]]) = leadL rs
  | [] => rfl
  | [r] => by rw [leadL_cons]; rfl
  | r :: q :: rs => by
    have ih := glue_lead (q :: rs)
    rw [leadL_cons, ← ih]
    rfl
theorem split_lead (rs : List Int) : Txt.split (leadS rs) (Str.ofString "\t") = rs.map blanks ++ [⟨#[]⟩] := by
  rw [s_tab]
  have h1 : (Str.join ⟨#[9]⟩ (Txt.split (leadS rs) ⟨#[9]⟩)).cps.toList = (leadS rs).cps.toList := by rw [StrLaws.join_split]
  rw [join_cps, leadS_cps, ← glue_lead] at h1
  have hf := StrLaws.split_free (leadS rs) 9
  have hne : (Txt.split (leadS rs) ⟨#[9]⟩) ≠ [] := by
    intro q
    have := split_pos (leadS rs) ⟨#[9]⟩
    rw [q] at this; simp at this
  have e := glue_uniq (c := 9) (by simpa using hne) (by simp) (fun a ha => by
    obtain ⟨p, hp, rfl⟩ := List.mem_map.mp ha
    exact hf p hp) (fun a ha => by
    rcases List.mem_append.mp ha with ha | ha
    · obtain ⟨r, _, rfl⟩ := List.mem_map.mp ha
      intro q
      have := (List.mem_replicate.mp q).2
      lia
    · rw [List.mem_singleton.mp ha]; simp) h1
  have inj : ∀ (A B : List Str), A.map (fun x => x.cps.toList) = B.map (fun x => x.cps.toList) → A = B := by
    intro A
    induction A with
    | nil => intro B h; cases B with
      | nil => rfl
      | cons b B => simp at h
    | cons a A ih => intro B h; cases B with
      | nil => simp at h
      | cons b B =>
        simp only [List.map_cons, List.cons.injEq] at h
        rw [str_ext h.1, ih B h.2]
  refine inj _ _ ?_
  rw [e, List.map_append, List.map_map]
  congr 1
  refine List.map_congr_left fun r _ => ?_
  exact (blanks_cps r).symm
theorem split_drop (rs : List Int) : (Txt.split (leadS rs) (Str.ofString "\t")).dropLast = rs.map blanks := by rw [split_lead, List.dropLast_concat]
theorem blanks_inj {a b : Int} (ha : 1 ≤ a) (hb : 1 ≤ b) (h : blanks a = blanks b) : a = b := by
  have := congrArg (fun z : Str => z.length) h
  simp only [blanks_len] at this
  lia
theorem erase_blanks {c : Int} (hc : 1 ≤ c) : ∀ {rs : List Int}, (∀ r ∈ rs, 1 ≤ r) → (rs.map blanks).erase (blanks c) = (rs.erase c).map blanks
  | [], _ => rfl
  | r :: rs, h => by
    have ih := erase_blanks hc (rs := rs) fun x hx => h x (.tail _ hx)
    rw [List.map_cons]
    by_cases e : r = c
    · subst e; simp
    · have ne : ¬ blanks r = blanks c := fun q => e (blanks_inj (h r (.head _)) hc q)
      rw [List.erase_cons_tail (by simpa using ne), List.erase_cons_tail (by simpa using e), List.map_cons, ih]
theorem join_nil_cps : ∀ l : List Str, (Txt.join (Str.ofString "") l).cps.toList = l.flatMap fun x => x.cps.toList := by
  intro l
  show (Builtin.Str.glued (Str.ofString "") l).cps.toList = _
  rw [StrLaws.glued_eq_join, s_nil]
  induction l with
  | nil => rfl
  | cons x r ih =>
    cases r with
    | nil => show x.cps.toList = _; simp
    | cons y r =>
      show (x ++ ⟨#[]⟩ ++ Str.join ⟨#[]⟩ (y :: r)).cps.toList = _
      rw [app_cps, app_cps, ih]
      simp
theorem join_lead (rs : List Int) : Txt.join (Str.ofString "") ((rs.map blanks).map fun c => c ++ Str.ofString "\t") = leadS rs := by
  refine str_ext ?_
  rw [join_nil_cps, leadS_cps]
  induction rs with
  | nil => rfl
  | cons r rs ih =>
    rw [leadL_cons, ← ih, List.map_cons, List.map_cons, List.flatMap_cons, app_cps, blanks_cps, s_tab]
    simp
theorem join_dot (p : Str) : ∀ l : List Str, (Txt.join (Str.ofString ".") (p :: l)).cps.toList = p.cps.toList ++ l.flatMap fun x => 46 :: x.cps.toList := by
  intro l
  show (Builtin.Str.glued (Str.ofString ".") (p :: l)).cps.toList = _
  rw [StrLaws.glued_eq_join, s_dot, join_cps]
  induction l generalizing p with
  | nil => simp [glue]
  | cons x r ih =>
    have := ih x
    rw [List.map_cons] at this
    simp only [List.map_cons, glue, this, List.flatMap_cons]
    simp
theorem fig_int {c : Int} (h : 1 ≤ c ∧ c ≤ 8) : Str.ofString (toString c) = ⟨#[48 + c.toNat]⟩ := by
  obtain ⟨k, rfl⟩ := Int.eq_ofNat_of_zero_le (show 0 ≤ c by lia)
  rw [Int.toNat_natCast]
  exact fig_text (by lia)
theorem host_join {l : List Int} (h : ∀ c ∈ l, 1 ≤ c ∧ c ≤ 8) : hostS (nats l) = Txt.join (Str.ofString ".") (Str.ofString "purse" :: l.map fun c => Str.ofString (toString c)) := by
  refine str_ext ?_
  rw [join_dot, s_purse]
  show (hostL (nats l)).toArray.toList = _
  rw [List.toList_toArray]
  unfold hostL
  congr 1
  induction l with
  | nil => rfl
  | cons c r ih =>
    have := ih fun x hx => h x (.tail _ hx)
    rw [nats] at this ⊢
    rw [List.map_cons, hostTail, List.flatMap_cons]
    rw [hostTail] at this
    rw [this, List.map_cons, List.flatMap_cons, fig_int (h c (.head _))]
theorem host_slices {hs : List Nat} (h1 : 1 ≤ hs.length) : Txt.slice (hostS hs) none (some ((5 + 2 * (hs.length - 1) : Nat) : Int)) ++ Txt.slice (hostS hs) (some ((5 + 2 * hs.length : Nat) : Int)) none = hostS hs.dropLast := by
  obtain ⟨i, c, rfl, _⟩ := snoc_of h1
  have hz := hostS_size (i ++ [c])
  have hz' : (hostS (i ++ [c])).cps.toList.length = 5 + 2 * (i ++ [c]).length := by rw [← hz]; exact Array.length_toList
  have e1 := eq_of_beq (slice_closes_to (x := hostS (i ++ [c])) (j := ((5 + 2 * ((i ++ [c]).length - 1) : Nat) : Int)) (by
    rw [hz']; simp only [List.length_append, List.length_singleton]; lia))
  have e2 : Txt.slice (hostS (i ++ [c])) (some ((5 + 2 * (i ++ [c]).length : Nat) : Int)) none = Str.empty := slice_beyond (by
    show ((hostS (i ++ [c])).cps.size : Int) ≤ _
    rw [hz]; exact Int.le_refl _)
  rw [e1, e2, List.dropLast_concat]
  refine str_ext ?_
  rw [app_cps]
  show ((hostL (i ++ [c])).toArray.toList.drop 0 |>.take _).toArray.toList ++ [] = (hostL i).toArray.toList
  rw [List.append_nil, List.toList_toArray, List.toList_toArray, List.toList_toArray, List.drop_zero, hostL_snoc]
  have hl := hostL_len i
  simp only [List.length_append, List.length_singleton, Nat.add_sub_cancel]
  have e3 : (((5 + 2 * i.length : Nat) : Int) - 0).toNat = (hostL i).length := by lia
  rw [e3, List.take_left]
end Mine
end

section
open PySem PySem.W PyProof.Rows
set_option Elab.async false
set_option maxRecDepth 100000
set_option linter.unusedVariables false
namespace Mine
theorem wsRun_blanks : ∀ (k : Nat) (t : List Nat) (st : WSt), wsRun (List.replicate k 32 ++ t) st = wsRun t ⟨st.b + k, st.n + k, st.nt, st.cnt⟩
  | 0, t, st => by simp
  | k + 1, t, st => by
    rw [List.replicate_succ, List.cons_append, wsRun, if_pos rfl, wsRun_blanks k]
    have e1 : (wsSpace st).b + k = st.b + (k + 1 : Nat) := by simp only [wsSpace]; lia
    have e2 : (wsSpace st).n + k = st.n + (k + 1 : Nat) := by simp only [wsSpace]; lia
    rw [e1, e2]; rfl
def bumpG (cnt : List Int) (r : Int) : List Int := wsBump r (wsGrow r cnt)
theorem wsRun_lead : ∀ (rs : List Int), (∀ r ∈ rs, 1 ≤ r) → ∀ (t : List Nat) (n nt : Int) (cnt : List Int), ∃ n', wsRun (leadL rs ++ t) ⟨0, n, nt, cnt⟩ = wsRun t ⟨0, n', nt + rs.length, rs.foldl bumpG cnt⟩
  | [], _, t, n, nt, cnt => ⟨n, by simp [leadL]⟩
  | r :: rs, h, t, n, nt, cnt => by
    have h0 := h r (.head _)
    obtain ⟨n', e⟩ := wsRun_lead rs (fun x hx => h x (.tail _ hx)) t (n + r.toNat + 1) (nt + 1) (bumpG cnt r)
    refine ⟨n', ?_⟩
    rw [leadL_cons, List.append_assoc, wsRun_blanks, List.cons_append, wsRun, if_neg (by decide), if_pos rfl]
    have eb : (0 : Int) + r.toNat = r := by lia
    simp only [wsTab, eb]
    rw [List.foldl_cons, List.length_cons]
    have en : nt + ((rs.length + 1 : Nat) : Int) = nt + 1 + rs.length := by lia
    rw [en]
    exact e
theorem wsFin_lead {rs : List Int} (h : ∀ r ∈ rs, 1 ≤ r) : ∃ n', wsFin (leadS rs ++ Str.ofString "x\t ") = ⟨0, n', rs.length, rs.foldl bumpG []⟩ := by
  obtain ⟨n', e⟩ := wsRun_lead rs h [120, 9, 32] 0 0 []
  refine ⟨n', ?_⟩
  unfold wsFin wsInit
  rw [app_cps, leadS_cps, s_x]
  show wsRun (leadL rs ++ [120, 9, 32]) _ = _
  rw [e, wsRun, if_neg (by decide), if_neg (by decide), Int.zero_add]
theorem grow_getD {b : Int} {cnt : List Int} (j : Nat) : (wsGrow b cnt).getD j 0 = cnt.getD j 0 := by
  unfold wsGrow
  split
  · exact app_rep cnt _ j
  · rfl
theorem bumpG_getD {r : Int} {cnt : List Int} (h : 0 ≤ r) (j : Nat) : (bumpG cnt r).getD j 0 = cnt.getD j 0 + if r = (j : Int) then 1 else 0 := by
  have hl : r.toNat < (wsGrow r cnt).length := by rw [wsGrow_len _ _ h]; lia
  unfold bumpG wsBump
  rw [List.getD_eq_getElem?_getD, List.getElem?_set]
  by_cases e : r.toNat = j
  · rw [if_pos e, if_pos hl, if_pos (by lia)]
    subst e
    rw [Option.getD_some, grow_getD]
  · rw [if_neg e, if_neg (by lia), ← List.getD_eq_getElem?_getD, grow_getD]; lia
theorem foldG_getD : ∀ (rs : List Int), (∀ r ∈ rs, 1 ≤ r) → ∀ (cnt : List Int) (j : Nat), (rs.foldl bumpG cnt).getD j 0 = cnt.getD j 0 + (rs.count ((j : Nat) : Int) : Int)
  | [], _, cnt, j => by simp
  | r :: rs, h, cnt, j => by
    have h0 := h r (.head _)
    rw [List.foldl_cons, foldG_getD rs (fun x hx => h x (.tail _ hx)), bumpG_getD (by lia), List.count_cons]
    by_cases e : r = (j : Int)
    · subst e; simp; lia
    · rw [if_neg e]
      have : (r == (j : Int)) = false := by simpa using e
      rw [this]; simp
theorem foldG_len : ∀ (rs : List Int), (∀ r ∈ rs, 1 ≤ r ∧ r ≤ 8) → ∀ (cnt : List Int), cnt.length ≤ 9 → (rs.foldl bumpG cnt).length ≤ 9
  | [], _, cnt, h => h
  | r :: rs, h, cnt, hc => by
    have h0 := h r (.head _)
    refine foldG_len rs (fun x hx => h x (.tail _ hx)) _ ?_
    unfold bumpG
    rw [wsBump_len, wsGrow_len _ _ (by lia)]
    lia
theorem wsumF_set : ∀ (l : List Int) (i k : Nat), k < l.length → wsumF i (l.set k (l.getD k 0 + 1)) = wsumF i l + (i + k : Nat)
  | [], _, _, h => by simp at h
  | c :: r, i, 0, _ => by
    simp only [List.set_cons_zero, List.getD_cons_zero, wsumF, Int.mul_add]
    lia
  | c :: r, i, k + 1, h => by
    have ih := wsumF_set r (i + 1) k (by simpa using h)
    rw [List.set_cons_succ, List.getD_cons_succ, wsumF, wsumF, ih]
    lia
theorem wsumF_rep (l : List Int) : ∀ m : Nat, wsumF 0 (l ++ List.replicate m 0) = wsumF 0 l
  | 0 => by simp
  | m + 1 => by rw [List.replicate_succ', ← List.append_assoc, wsumF_snoc, Int.mul_zero, Int.add_zero, wsumF_rep l m]
theorem wsumF_bump {r : Int} {cnt : List Int} (h : 0 ≤ r) : wsumF 0 (bumpG cnt r) = wsumF 0 cnt + r := by
  have hl : r.toNat < (wsGrow r cnt).length := by rw [wsGrow_len _ _ h]; lia
  unfold bumpG wsBump
  rw [wsumF_set _ _ _ hl]
  have e : wsumF 0 (wsGrow r cnt) = wsumF 0 cnt := by
    unfold wsGrow
    split
    · exact wsumF_rep cnt _
    · rfl
  rw [e]; lia
theorem wsumF_fold : ∀ (rs : List Int), (∀ r ∈ rs, 1 ≤ r) → ∀ cnt : List Int, wsumF 0 (rs.foldl bumpG cnt) = wsumF 0 cnt + rs.sum
  | [], _, cnt => by simp
  | r :: rs, h, cnt => by
    have h0 := h r (.head _)
    rw [List.foldl_cons, wsumF_fold rs (fun x hx => h x (.tail _ hx)), wsumF_bump (by lia), List.sum_cons]; lia
/-- what a turn of the law's loop knows -/
structure TurnOk (k n : Nat) (cs rs : List Int) : Prop where
  hk : k ≤ 4
  ok : WaysOk cs
  l4 : cs.length = 4
  w1 : 5 ≤ n
  w2 : n ≤ 1004
  pm : rs.Perm (cs.take k)
section
variable {k n : Nat} {cs rs : List Int}
theorem TurnOk.take (t : TurnOk k n cs rs) : WaysOk (cs.take k) := ⟨by rw [List.length_take]; have := t.l4; lia, fun c h => t.ok.2 c (List.mem_of_mem_take h)⟩
theorem TurnOk.tlen (t : TurnOk k n cs rs) : (cs.take k).length = k := by rw [List.length_take]; have := t.l4; have := t.hk; lia
theorem TurnOk.mem (t : TurnOk k n cs rs) : ∀ r ∈ rs, 1 ≤ r ∧ r ≤ 8 := fun r h => t.take.2 r (t.pm.mem_iff.mp h)
theorem TurnOk.mem1 (t : TurnOk k n cs rs) : ∀ r ∈ rs, 1 ≤ r := fun r h => (t.mem r h).1
theorem TurnOk.len (t : TurnOk k n cs rs) : rs.length = k := by rw [t.pm.length_eq, t.tlen]
theorem lead_len (t : TurnOk k n cs rs) : (leadS rs).length ≤ 36 := by
  have h1 := leadL_len t.mem
  have h2 := t.len
  have h3 := t.hk
  have e : (leadS rs).length = (leadL rs).length := by
    show (leadL rs).toArray.size = _
    rw [List.size_toArray]
  lia
theorem ow_ways (t : TurnOk k n cs rs) : WaysOk (List.take (k : Int).toNat cs) := by rw [Int.toNat_natCast]; exact t.take
theorem ow_lead (t : TurnOk k n cs rs) : (leadS rs).length + (Str.ofString "x\t ").length ≤ 1000000 := by
  have := lead_len t
  have e : (Str.ofString "x\t ").length = 3 := by decide
  lia
theorem ow_ws (t : TurnOk k n cs rs) : WsOk (leadS rs ++ Str.ofString "x\t ") := by
  refine ⟨?_, fun c hc => ?_⟩
  · have h1 := lead_len t
    have e : (Str.ofString "x\t ").length = 3 := by decide
    have := PySem.Str.length_append (leadS rs) (Str.ofString "x\t ")
    show (leadS rs ++ Str.ofString "x\t ").length ≤ 1000
    lia
  · rw [app_cps, leadS_cps, s_x] at hc
    rcases List.mem_append.mp hc with hc | hc
    · rcases leadL_mem c hc with h | h
      · exact .inl h
      · exact .inr (.inl h)
    · have : c = 120 ∨ c = 9 ∨ c = 32 := by simpa using hc
      lia
theorem ow_src (t : TurnOk k n cs rs) : (List.take (k : Int).toNat cs).length ≤ 1000 ∧ ∀ c ∈ List.take (k : Int).toNat cs, 1 ≤ c ∧ c ≤ 8 := by
  rw [Int.toNat_natCast]
  exact ⟨by have := t.tlen; have := t.hk; lia, t.take.2⟩
theorem ow_map (t : TurnOk k n cs rs) : (List.map (fun c : Int => Str.ofString (toString c)) (List.take (k : Int).toNat cs)).length ≤ 1000 := by
  rw [List.length_map]; exact (ow_src t).1
theorem fig_lens : ∀ {l : List Int}, (∀ c ∈ l, 1 ≤ c ∧ c ≤ 8) → (l.map fun c => (Str.ofString (toString c)).length).sum = l.length
  | [], _ => rfl
  | c :: r, h => by
    have e : (Str.ofString (toString c)).length = 1 := by rw [fig_int (h c (.head _))]; rfl
    rw [List.map_cons, List.sum_cons, fig_lens fun x hx => h x (.tail _ hx), e, List.length_cons]; lia
theorem ow_join (t : TurnOk k n cs rs) : (List.map (fun x : Str => x.length) (Str.ofString "purse" :: List.map (fun c : Int => Str.ofString (toString c)) (List.take (k : Int).toNat cs))).sum + (Str.ofString "purse" :: List.map (fun c : Int => Str.ofString (toString c)) (List.take (k : Int).toNat cs)).length ≤ 100000 ∧ (Str.ofString ".").length ≤ 16 := by
  have h := ow_src t
  have e : (Str.ofString "purse").length = 5 := by decide
  refine ⟨?_, by decide⟩
  rw [List.map_cons, List.sum_cons, List.map_map, List.length_cons, List.length_map]
  have := fig_lens h.2
  show (Str.ofString "purse").length + (List.map (fun c : Int => (Str.ofString (toString c)).length) _).sum + _ ≤ _
  rw [this, e]
  lia
theorem ow_host (t : TurnOk k n cs rs) : hostS (nats (List.take k cs)) = Txt.join (Str.ofString ".") (Str.ofString "purse" :: List.map (fun c : Int => Str.ofString (toString c)) (List.take (k : Int).toNat cs)) := by
  rw [Int.toNat_natCast]; exact host_join t.take.2
theorem ow_rx (t : TurnOk k n cs rs) : RxOk (nats (List.take k cs)) := by
  refine ⟨?_, fun c hc => ?_⟩
  · unfold nats; rw [List.length_map, t.tlen]; exact t.hk
  · obtain ⟨x, hx, rfl⟩ := List.mem_map.mp hc
    have := t.take.2 x hx
    lia
theorem ow_hdn (t : TurnOk k n cs rs) : decide (nats (List.take k cs) = []) = ((k : Int) == 0) := by
  have hl := t.tlen
  cases k with
  | zero => simp [nats]
  | succ j =>
    have h1 : ¬ nats (List.take (j + 1) cs) = [] := by
      intro q
      have := congrArg List.length q
      unfold nats at this
      rw [List.length_map, hl] at this
      simp at this
    have h2 : (((j + 1 : Nat) : Int) == 0) = false := by
      rw [beq_eq_false_iff_ne]; lia
    rw [h2, decide_eq_false h1]
theorem ow_i2 (t : TurnOk k n cs rs) : I2Ok (numOf n (List.take k cs)) n := (num_digs t.w1 t.w2 t.take).1
theorem ow_digs (t : TurnOk k n cs rs) : digs n (nd (numOf n (List.take k cs)) n) (numOf n (List.take k cs)) = waysOf (List.take (k : Int).toNat cs) := by
  rw [Int.toNat_natCast]; exact (num_digs t.w1 t.w2 t.take).2.1
theorem ow_level (t : TurnOk k n cs rs) : [(wsFin (leadS rs ++ Str.ofString "x\t ")).nt, wsLevel (leadS rs ++ Str.ofString "x\t ")] = [(k : Int), (List.take (k : Int).toNat cs).sum + (k : Int)] := by
  obtain ⟨n', e⟩ := wsFin_lead t.mem1
  rw [Int.toNat_natCast]
  unfold wsLevel
  rw [e]
  have h1 := wsumF_fold rs t.mem1 []
  have h2 := perm_sum t.pm
  have h3 := t.len
  have h4 : wsumF 0 ([] : List Int) = 0 := rfl
  simp only [List.cons.injEq, and_true]
  exact ⟨by lia, by lia⟩
theorem ow_cnt (t : TurnOk k n cs rs) : ∀ j : Nat, (wsFin (leadS rs ++ Str.ofString "x\t ")).cnt.getD j 0 = (rs.count ((j : Nat) : Int) : Int) := by
  obtain ⟨n', e⟩ := wsFin_lead t.mem1
  intro j
  rw [e]
  have := foldG_getD rs t.mem1 [] j
  simpa using this
theorem ow_lu (t : TurnOk k n cs rs) : LuOk (wsFin (leadS rs ++ Str.ofString "x\t ")).cnt := by
  obtain ⟨n', e⟩ := wsFin_lead t.mem1
  have hc := ow_cnt t
  rw [e] at hc ⊢
  have hl := foldG_len rs t.mem [] (by simp)
  refine ⟨by show (rs.foldl bumpG []).length ≤ 100; lia, fun o ho => ?_⟩
  obtain ⟨j, hj, rfl⟩ := List.mem_iff_getElem.mp ho
  have h1 := hc j
  rw [List.getD_eq_getElem?_getD, List.getElem?_eq_getElem hj, Option.getD_some] at h1
  have h2 := List.count_le_length (a := ((j : Nat) : Int)) (l := rs)
  have h3 := t.len
  have h4 := t.hk
  lia
theorem ow_wlen (t : TurnOk k n cs rs) : (waysOf (List.take (k : Int).toNat cs)).length ≤ 33 := by
  have := waysOf_len t.ok k
  rw [Int.toNat_natCast]; exact this
theorem ow_app (t : TurnOk k n cs rs) : (waysOf (List.take (k : Int).toNat cs)).length + [(0 : Int)].length ≤ 1000000 := by
  have := ow_wlen t
  rw [List.length_singleton]; lia
theorem ow_idx (t : TurnOk k n cs rs) : (waysOf (List.take (k : Int).toNat cs) ++ [0]).length ≤ 100000 ∧ ∃ j : Nat, (waysOf (List.take (k : Int).toNat cs) ++ [0])[j]? = some 0 ∧ ∀ i < j, ∀ y, (waysOf (List.take (k : Int).toNat cs) ++ [0])[i]? = some y → y ≠ 0 := by
  refine ⟨by have := ow_app t; rw [List.length_append]; have := ow_wlen t; rw [List.length_singleton]; lia, ?_⟩
  rw [Int.toNat_natCast]
  obtain ⟨j, _, h1, h2⟩ := brown t.take t.pm (ow_cnt t)
  exact ⟨j, h1, h2⟩
theorem ow_brown (t : TurnOk k n cs rs) {j : Nat} (hj : (waysOf (List.take (k : Int).toNat cs) ++ [0])[j]? = some 0) (hn : ∀ i < j, ∀ y, (waysOf (List.take (k : Int).toNat cs) ++ [0])[i]? = some y → y ≠ 0) : luRun 0 0 (wsFin (leadS rs ++ Str.ofString "x\t ")).cnt = (j : Int) := by
  rw [Int.toNat_natCast] at hj hn
  obtain ⟨i, e, h1, h2⟩ := brown t.take t.pm (ow_cnt t)
  rw [e]
  by_cases q : i < j
  · exact absurd rfl (hn i q 0 h1)
  · by_cases q2 : j < i
    · exact absurd rfl (h2 j q2 0 hj)
    · have : i = j := by lia
      rw [this]
theorem last_of (t : TurnOk k n cs rs) (h : 0 < (k : Int)) : ∃ c : Int, cs.take k = cs.take (k - 1) ++ [c] ∧ (1 ≤ c ∧ c ≤ 8) ∧ (((nats (cs.take k)).getLastD 0 : Nat) : Int) = c ∧ nats (cs.take k) = nats (cs.take (k - 1)) ++ [c.toNat] := by
  have hk := t.hk
  have h4 := t.l4
  obtain ⟨j, rfl⟩ : ∃ j, k = j + 1 := ⟨k - 1, by lia⟩
  have hj : j < cs.length := by lia
  have hc := t.ok.2 cs[j] (List.getElem_mem hj)
  have e : cs.take (j + 1) = cs.take j ++ [cs[j]] := by rw [List.take_add_one, List.getElem?_eq_getElem hj]; rfl
  refine ⟨cs[j], e, hc, ?_, ?_⟩
  · rw [e]; unfold nats
    rw [List.map_append, List.map_singleton, List.getLastD_concat]
    lia
  · rw [Nat.add_sub_cancel, e]; unfold nats
    rw [List.map_append, List.map_singleton]
theorem ow_len1 (t : TurnOk k n cs rs) (h : 0 < (k : Int)) : 1 ≤ (nats (List.take k cs)).length := by
  unfold nats; rw [List.length_map, t.tlen]; lia
theorem ow_len4 (t : TurnOk k n cs rs) : (nats (List.take k cs)).length ≤ 4 := (ow_rx t).len
theorem ow_ext (t : TurnOk k n cs rs) : (⟨(hostS (nats (List.take k cs))).cps.extract (5 + 2 * ((nats (List.take k cs)).length - 1)) (5 + 2 * (nats (List.take k cs)).length)⟩ : Str).length ≤ 1000000 := by
  show ((hostS (nats (List.take k cs))).cps.extract _ _).size ≤ _
  rw [Array.size_extract, hostS_size]
  have := ow_len4 t
  lia
theorem ow_mul (t : TurnOk k n cs rs) (h : 0 < (k : Int)) : IntMulOk (n : Int) (((nats (List.take k cs)).getLastD 0 : Nat) : Int) := by
  obtain ⟨c, _, hc, e, _⟩ := last_of t h
  rw [e]
  exact mulok (i := 20) (j := 20) (by omega) (by have := t.w2; have : (2 : Int) ^ 20 = 1048576 := by decide
                                                 omega) (by omega) (by have : (2 : Int) ^ 20 = 1048576 := by decide
                                                                       omega) (by omega) (by omega)
theorem mul_small {n : Nat} {c : Int} (hn : n ≤ 1004) (hc : 1 ≤ c ∧ c ≤ 8) : 0 ≤ (n : Int) * c ∧ (n : Int) * c ≤ 8032 := by
  obtain ⟨j, rfl⟩ := Int.eq_ofNat_of_zero_le (show 0 ≤ c by lia)
  have := Nat.mul_le_mul hn (show j ≤ 8 by lia)
  rw [← Int.natCast_mul]
  lia
theorem ow_shl (t : TurnOk k n cs rs) (h : 0 < (k : Int)) : 0 ≤ (n : Int) * (((nats (List.take k cs)).getLastD 0 : Nat) : Int) ∧ (Builtin.Int.intBits 1 : Int) + (n : Int) * (((nats (List.take k cs)).getLastD 0 : Nat) : Int) ≤ 2 ^ 27 := by
  obtain ⟨c, _, hc, e, _⟩ := last_of t h
  rw [e]
  have := mul_small t.w2 hc
  have e1 : (Builtin.Int.intBits 1 : Int) = 1 := by decide
  have e2 : (2 : Int) ^ 27 = 134217728 := by decide
  rw [e1, e2]
  lia
theorem ow_dp (t : TurnOk k n cs rs) (h : 0 < (k : Int)) : DpOk (numOf n (List.take k cs)) (1 + 1 * 2 ^ ((n : Int) * (((nats (List.take k cs)).getLastD 0 : Nat) : Int)).toNat) := by
  obtain ⟨c, _, hc, e, _⟩ := last_of t h
  rw [e, Int.one_mul]
  exact num_dp t.w1 t.w2 t.take hc
theorem ow_quot (t : TurnOk k n cs rs) (h : 0 < (k : Int)) {q r : Int} (hq : q = numOf n (List.take k cs) / (1 + 1 * 2 ^ ((n : Int) * (((nats (List.take k cs)).getLastD 0 : Nat) : Int)).toNat)) (hr : r = numOf n (List.take k cs) % (1 + 1 * 2 ^ ((n : Int) * (((nats (List.take k cs)).getLastD 0 : Nat) : Int)).toNat)) :
    q = numOf n (List.take (k - 1) cs) ∧ r = 0 := by
  obtain ⟨c, ec, hc, e, _⟩ := last_of t h
  rw [e, Int.one_mul, ec] at hq hr
  have := numOf_div (n : Int) (cs.take (k - 1)) c
  rw [hq, hr]
  exact this
theorem ow_split (t : TurnOk k n cs rs) : (Txt.split (leadS rs) (Str.ofString "\t")).length ≤ 100000 := by
  rw [split_lead, List.length_append, List.length_map, t.len, List.length_singleton]
  have := t.hk
  lia
theorem last_mem (t : TurnOk k n cs rs) {c : Int} (ec : cs.take k = cs.take (k - 1) ++ [c]) : c ∈ rs := t.pm.mem_iff.mpr (by rw [ec]; simp)
theorem ow_rem (t : TurnOk k n cs rs) (h : 0 < (k : Int)) : Txt.mul (Str.ofString " ") (((nats (List.take k cs)).getLastD 0 : Nat) : Int) ∈ (Txt.split (leadS rs) (Str.ofString "\t")).dropLast ∧ (Txt.split (leadS rs) (Str.ofString "\t")).dropLast.length ≤ 100000 := by
  obtain ⟨c, ec, hc, e, _⟩ := last_of t h
  rw [e, split_drop]
  refine ⟨List.mem_map.mpr ⟨c, last_mem t ec, rfl⟩, ?_⟩
  rw [List.length_map, t.len]; have := t.hk; lia
theorem ow_last (t : TurnOk k n cs rs) (h : 0 < (k : Int)) : (Str.ofString " ").length ≤ 16 ∧ 0 ≤ (((nats (List.take k cs)).getLastD 0 : Nat) : Int) ∧ (((nats (List.take k cs)).getLastD 0 : Nat) : Int) ≤ 1000 := by
  obtain ⟨c, ec, hc, e, _⟩ := last_of t h
  rw [e]
  exact ⟨by decide, by lia, by lia⟩
theorem erased (t : TurnOk k n cs rs) (h : 0 < (k : Int)) : ∃ qs : List Int, (Txt.split (leadS rs) (Str.ofString "\t")).dropLast.erase (Txt.mul (Str.ofString " ") (((nats (List.take k cs)).getLastD 0 : Nat) : Int)) = qs.map blanks ∧ qs.Perm (cs.take (k - 1)) := by
  obtain ⟨c, ec, hc, e, _⟩ := last_of t h
  refine ⟨rs.erase c, ?_, ?_⟩
  · rw [e, split_drop]
    exact erase_blanks hc.1 t.mem1
  · have p1 := t.pm.erase c
    rw [ec] at p1
    refine p1.trans ?_
    have p2 : (cs.take (k - 1) ++ [c]).Perm (c :: cs.take (k - 1)) := List.perm_append_comm
    have p3 := p2.erase c
    rw [List.erase_cons_head] at p3
    exact p3
theorem ow_runs (t : TurnOk k n cs rs) (h : 0 < (k : Int)) : ((Txt.split (leadS rs) (Str.ofString "\t")).dropLast.erase (Txt.mul (Str.ofString " ") (((nats (List.take k cs)).getLastD 0 : Nat) : Int))).length ≤ 1000 ∧
    ∀ c ∈ (Txt.split (leadS rs) (Str.ofString "\t")).dropLast.erase (Txt.mul (Str.ofString " ") (((nats (List.take k cs)).getLastD 0 : Nat) : Int)), c.length ≤ 1000 := by
  obtain ⟨qs, e, p⟩ := erased t h
  rw [e]
  refine ⟨?_, fun c hc => ?_⟩
  · rw [List.length_map, p.length_eq, List.length_take]; have := t.hk; lia
  · obtain ⟨r, hr, rfl⟩ := List.mem_map.mp hc
    have := t.ok.2 r (List.mem_of_mem_take (p.mem_iff.mp hr))
    rw [blanks_len]; lia
theorem ow_glue (t : TurnOk k n cs rs) (h : 0 < (k : Int)) : (List.map (fun x : Str => x.length) (List.map (fun c : Str => c ++ Str.ofString "\t") ((Txt.split (leadS rs) (Str.ofString "\t")).dropLast.erase (Txt.mul (Str.ofString " ") (((nats (List.take k cs)).getLastD 0 : Nat) : Int))))).sum +
    (List.map (fun c : Str => c ++ Str.ofString "\t") ((Txt.split (leadS rs) (Str.ofString "\t")).dropLast.erase (Txt.mul (Str.ofString " ") (((nats (List.take k cs)).getLastD 0 : Nat) : Int)))).length ≤ 100000 ∧ (Str.ofString "").length ≤ 16 := by
  obtain ⟨qs, e, p⟩ := erased t h
  rw [e]
  refine ⟨?_, by decide⟩
  have hq : ∀ r ∈ qs, 1 ≤ r ∧ r ≤ 8 := fun r hr => t.ok.2 r (List.mem_of_mem_take (p.mem_iff.mp hr))
  have hl : qs.length ≤ 4 := by rw [p.length_eq, List.length_take]; have := t.hk; lia
  have e1 : (Str.ofString "\t").length = 1 := by decide
  have key : ∀ l : List Int, (∀ r ∈ l, 1 ≤ r ∧ r ≤ 8) → (List.map (fun x : Str => x.length) (List.map (fun c : Str => c ++ Str.ofString "\t") (l.map blanks))).sum ≤ 9 * l.length := by
    intro l
    induction l with
    | nil => intro _; simp
    | cons r l ih =>
      intro h
      have := ih fun x hx => h x (.tail _ hx)
      have hr := h r (.head _)
      rw [List.map_cons, List.map_cons, List.map_cons, List.sum_cons, PySem.Str.length_append, blanks_len, e1, List.length_cons]
      lia
  have := key qs hq
  rw [List.length_map, List.length_map]
  lia
end
end Mine
end

section
open PySem PySem.W PyProof.Rows
set_option Elab.async false
set_option maxRecDepth 100000
set_option linter.unusedVariables false
namespace Mine
section
variable {h₀ h' : Heap} {L I D c7 c8 : Addr} {it o8 oc7 oc8 x8 : Obj} {lv : List Value} {ep k n : Nat} {cs rs : List Int} {s : Shared} {tk' : Nat} {m' : Str → Option Value} {nw : List (Addr × Obj)} {vs7 vs8 : Array Value} {t7 t8 : Tok}
theorem news6 {a1 a2 a3 a4 a5 a6 : Addr × Obj} (N : News h₀ L h' nw) (q1 : a1 ∈ nw) (q2 : a2 ∈ nw) (q3 : a3 ∈ nw) (q4 : a4 ∈ nw) (q5 : a5 ∈ nw) (q6 : a6 ∈ nw) : News h₀ L h' [a1, a2, a3, a4, a5, a6] := fun p hp => N p (by
  simp only [List.mem_cons, List.not_mem_nil, or_false] at hp
  rcases hp with rfl | rfl | rfl | rfl | rfl | rfl <;> assumption)
theorem lw_end0 (t : TurnOk k n cs rs) (h : ¬ 0 < (k : Int)) (F : Fr h₀ L h' m') (N : News h₀ L h' nw) (q1 : (I, it) ∈ nw) (q2 : (D, listOf (List.toArray lv) ep) ∈ nw) (q3 : (73, tab1 49 4 c7) ∈ nw) (q4 : (80, o8) ∈ nw) (q5 : (c7, oc7) ∈ nw) (q6 : (c8, x8) ∈ nw)
    (d1 : oc7.data = .fields vs7) (d2 : vs7[1]? = some (.str q73 t7)) (t8 : TabAny 64 4 q80 o8 c8 x8) (n1 : NeA c7 73) (n2 : NeA c7 80) (n3 : NeA c8 73) (n4 : NeA c8 80) (n5 : NeI c7 I) (n6 : NeI c8 I)
    (v : LwVars m' D n (hostS (nats (cs.take k))) (leadS rs) (numOf n (cs.take k))) : LwEnd h₀ L I it D lv ep cs n (k - 1) s .next { s with heap := h', toks := tk' } := by
  have e : k - 1 = k := by lia
  rw [e]
  exact ⟨rfl, h', tk', m', _, o8, c7, oc7, c8, x8, rs, rfl, F, news6 N q1 q2 q3 q4 q5 q6, .inr ⟨rfl, vs7, t7, d1, d2⟩, t8, ⟨_, rfl⟩, tabAny_obj t8, n1, n2, n3, n4, n5, n6, t.pm, v⟩
theorem lw_end1 {q r : Int} (t : TurnOk k n cs rs) (h : 0 < (k : Int)) (hq : q = numOf n (List.take k cs) / (1 + 1 * 2 ^ ((n : Int) * (((nats (List.take k cs)).getLastD 0 : Nat) : Int)).toNat)) (hr : r = numOf n (List.take k cs) % (1 + 1 * 2 ^ ((n : Int) * (((nats (List.take k cs)).getLastD 0 : Nat) : Int)).toNat))
    (F : Fr h₀ L h' m') (N : News h₀ L h' nw) (q1 : (I, it) ∈ nw) (q2 : (D, listOf (List.toArray lv) ep) ∈ nw) (q3 : (73, tab1 49 4 c7) ∈ nw) (q4 : (80, tab1 64 4 c8) ∈ nw) (q5 : (c7, oc7) ∈ nw) (q6 : (c8, oc8) ∈ nw)
    (d1 : oc7.data = .fields vs7) (d2 : vs7[1]? = some (.str q73 t7)) (d3 : oc8.data = .fields vs8) (d4 : vs8[1]? = some (.str q80 t8)) (n1 : NeA c7 73) (n2 : NeA c7 80) (n3 : NeA c8 73) (n4 : NeA c8 80) (n5 : NeI c7 I) (n6 : NeI c8 I)
    (v : LwVars m' D n (Txt.slice (hostS (nats (cs.take k))) none (some ((5 + 2 * ((nats (cs.take k)).length - 1) : Nat) : Int)) ++ Txt.slice (hostS (nats (cs.take k))) (some ((5 + 2 * (nats (cs.take k)).length : Nat) : Int)) none)
      (Txt.join (Str.ofString "") (List.map (fun c : Str => c ++ Str.ofString "\t") ((Txt.split (leadS rs) (Str.ofString "\t")).dropLast.erase (Txt.mul (Str.ofString " ") (((nats (List.take k cs)).getLastD 0 : Nat) : Int))))) q) : LwEnd h₀ L I it D lv ep cs n (k - 1) s .next { s with heap := h', toks := tk' } := by
  obtain ⟨eq, _⟩ := ow_quot t h hq hr
  obtain ⟨c, _, _, _, en⟩ := last_of t h
  obtain ⟨qs, ee, p⟩ := erased t h
  rw [ee, join_lead, host_slices (ow_len1 t h), en, List.dropLast_concat, eq] at v
  exact ⟨rfl, h', tk', m', _, _, c7, oc7, c8, oc8, qs, rfl, F, news6 N q1 q2 q3 q4 q5 q6, .inr ⟨rfl, vs7, t7, d1, d2⟩, .inr ⟨rfl, vs8, t8, d3, d4⟩, ⟨_, rfl⟩, ⟨_, rfl⟩, n1, n2, n3, n4, n5, n6, p, v⟩
end
theorem fmod8 (x : Int) : x.fmod 8 = x % 8 := Int.fmod_eq_emod_of_nonneg _ (by decide)
theorem fmod1000 (x : Int) : x.fmod 1000 = x % 1000 := Int.fmod_eq_emod_of_nonneg _ (by decide)
theorem coin_ok (x : Int) : 1 ≤ 1 + x.fmod 8 ∧ 1 + x.fmod 8 ≤ 8 := by rw [fmod8]; lia
theorem wide_ok (x : Int) : 5 ≤ 5 + x.fmod 1000 ∧ 5 + x.fmod 1000 ≤ 1004 := by rw [fmod1000]; lia
theorem mulS_len (x : Int) : (Txt.mul (Str.ofString " ") (1 + x.fmod 8)).length = (1 + x % 8).toNat := by rw [← fmod8]; exact blanks_len _
theorem figC_len (x : Int) : (Str.ofString (toString (1 + x.fmod 8))).length = 1 := by rw [fig_int (coin_ok x)]; rfl
theorem blank_ok (x : Int) : (Str.ofString " ").length ≤ 16 ∧ 0 ≤ 1 + x.fmod 8 ∧ 1 + x.fmod 8 ≤ 1000 := ⟨by decide, by have := coin_ok x; lia, by have := coin_ok x; lia⟩
theorem l_tab : (Str.ofString "\t").length = 1 := by decide
theorem l_nil : (Str.ofString "").length = 0 := by decide
theorem l_dot : (Str.ofString ".").length = 1 := by decide
theorem l_purse : (Str.ofString "purse").length = 5 := by decide
theorem l_pursed : (Str.ofString "purse.").length = 6 := by decide
theorem wc_mul (x y : Int) : IntMulOk (5 + x.fmod 1000) (1 + y.fmod 8) := by
  have h1 := wide_ok x
  have h2 := coin_ok y
  have e : (2 : Int) ^ 20 = 1048576 := by decide
  exact mulok (i := 20) (j := 20) (by lia) (by lia) (by lia) (by lia) (by lia) (by lia)
theorem wc_shl (x y : Int) (l : List Int) (hl : WaysOk l) : 0 ≤ (5 + x.fmod 1000) * (1 + y.fmod 8) ∧ (Builtin.Int.intBits (numOf (5 + x.fmod 1000) l) : Int) + (5 + x.fmod 1000) * (1 + y.fmod 8) ≤ 2 ^ 27 := by
  have h1 := wide_ok x
  have h2 := coin_ok y
  obtain ⟨n, e⟩ := Int.eq_ofNat_of_zero_le (show 0 ≤ 5 + x.fmod 1000 by lia)
  rw [e] at h1 ⊢
  obtain ⟨_, _, hb⟩ := num_digs (n := n) (by lia) (by lia) hl
  have := mul_small (n := n) (by lia) h2
  have e2 : (2 : Int) ^ 27 = 134217728 := by decide
  have e3 : n * 33 ≤ 1004 * 33 := Nat.mul_le_mul_right _ (by lia)
  rw [e2]
  lia
theorem wc_shl0 (x y : Int) : 0 ≤ (5 + x.fmod 1000) * (1 + y.fmod 8) ∧ (Builtin.Int.intBits 1 : Int) + (5 + x.fmod 1000) * (1 + y.fmod 8) ≤ 2 ^ 27 := wc_shl x y [] ⟨by simp, by simp⟩
theorem coins_ok : ∀ l : List Int, l.length ≤ 4 → WaysOk (l.map fun x => 1 + x.fmod 8) := fun l h => ⟨by rw [List.length_map]; exact h, fun c hc => by
  obtain ⟨x, _, rfl⟩ := List.mem_map.mp hc
  exact coin_ok x⟩
theorem first_ok {A B C D W : Int} (hA : 1 ≤ A ∧ A ≤ 8) (hB : 1 ≤ B ∧ B ≤ 8) (hC : 1 ≤ C ∧ C ≤ 8) (hD : 1 ≤ D ∧ D ≤ 8) (hW : 5 ≤ W ∧ W ≤ 1004) :
    WaysOk [A, B, C, D] ∧ [A, B, C, D].length = 4 ∧ (5 ≤ W ∧ W ≤ 1004) ∧
    Str.ofString "purse." ++ Str.ofString (toString A) ++ Str.ofString "." ++ Str.ofString (toString B) ++ Str.ofString "." ++ Str.ofString (toString C) ++ Str.ofString "." ++ Str.ofString (toString D) = hostS (nats [A, B, C, D]) ∧
    (∃ rs : List Int, rs.Perm [A, B, C, D] ∧ Txt.mul (Str.ofString " ") C ++ Str.ofString "\t" ++ (Txt.mul (Str.ofString " ") A ++ Str.ofString "\t" ++ Str.ofString "" ++ Txt.mul (Str.ofString " ") B ++ Str.ofString "\t") ++ Txt.mul (Str.ofString " ") D ++ Str.ofString "\t" = leadS rs) ∧
    1 + 1 * 2 ^ (W * A).toNat + (1 + 1 * 2 ^ (W * A).toNat) * 2 ^ (W * B).toNat + (1 + 1 * 2 ^ (W * A).toNat + (1 + 1 * 2 ^ (W * A).toNat) * 2 ^ (W * B).toNat) * 2 ^ (W * C).toNat +
      (1 + 1 * 2 ^ (W * A).toNat + (1 + 1 * 2 ^ (W * A).toNat) * 2 ^ (W * B).toNat + (1 + 1 * 2 ^ (W * A).toNat + (1 + 1 * 2 ^ (W * A).toNat) * 2 ^ (W * B).toNat) * 2 ^ (W * C).toNat) * 2 ^ (W * D).toNat = numOf W [A, B, C, D] := by
  refine ⟨⟨by simp, fun c hc => ?_⟩, rfl, hW, ?_, ⟨[C, A, B, D], ?_, ?_⟩, rfl⟩
  · simp only [List.mem_cons, List.not_mem_nil, or_false] at hc
    rcases hc with rfl | rfl | rfl | rfl <;> assumption
  · refine str_ext ?_
    have e : Str.ofString "purse." = ⟨#[112, 117, 114, 115, 101, 46]⟩ := by decide
    simp only [app_cps, fig_int hA, fig_int hB, fig_int hC, fig_int hD, s_dot, e]
    rfl
  · have p1 : [C, A, B, D].Perm [A, C, B, D] := .swap _ _ _
    exact p1.trans (.cons _ (.swap _ _ _))
  · refine str_ext ?_
    have hb : ∀ r, (Txt.mul (Str.ofString " ") r).cps.toList = List.replicate r.toNat 32 := blanks_cps
    rw [leadS_cps, leadL_cons, leadL_cons, leadL_cons, leadL_cons]
    simp only [app_cps, hb, s_tab, s_nil]
    simp [leadL]
theorem wc_shl1 (x y a : Int) : 0 ≤ (5 + x.fmod 1000) * (1 + y.fmod 8) ∧ (Builtin.Int.intBits (1 + 1 * 2 ^ ((5 + x.fmod 1000) * (1 + a.fmod 8)).toNat) : Int) + (5 + x.fmod 1000) * (1 + y.fmod 8) ≤ 2 ^ 27 := wc_shl x y [1 + a.fmod 8] (coins_ok [a] (by simp))
theorem wc_shl2 (x y a b : Int) : 0 ≤ (5 + x.fmod 1000) * (1 + y.fmod 8) ∧ (Builtin.Int.intBits (1 + 1 * 2 ^ ((5 + x.fmod 1000) * (1 + a.fmod 8)).toNat + (1 + 1 * 2 ^ ((5 + x.fmod 1000) * (1 + a.fmod 8)).toNat) * 2 ^ ((5 + x.fmod 1000) * (1 + b.fmod 8)).toNat) : Int) + (5 + x.fmod 1000) * (1 + y.fmod 8) ≤ 2 ^ 27 := wc_shl x y [1 + a.fmod 8, 1 + b.fmod 8] (coins_ok [a, b] (by simp))
theorem wc_shl3 (x y a b c : Int) : 0 ≤ (5 + x.fmod 1000) * (1 + y.fmod 8) ∧ (Builtin.Int.intBits (1 + 1 * 2 ^ ((5 + x.fmod 1000) * (1 + a.fmod 8)).toNat + (1 + 1 * 2 ^ ((5 + x.fmod 1000) * (1 + a.fmod 8)).toNat) * 2 ^ ((5 + x.fmod 1000) * (1 + b.fmod 8)).toNat +
      (1 + 1 * 2 ^ ((5 + x.fmod 1000) * (1 + a.fmod 8)).toNat + (1 + 1 * 2 ^ ((5 + x.fmod 1000) * (1 + a.fmod 8)).toNat) * 2 ^ ((5 + x.fmod 1000) * (1 + b.fmod 8)).toNat) * 2 ^ ((5 + x.fmod 1000) * (1 + c.fmod 8)).toNat) : Int) + (5 + x.fmod 1000) * (1 + y.fmod 8) ≤ 2 ^ 27 := wc_shl x y [1 + a.fmod 8, 1 + b.fmod 8, 1 + c.fmod 8] (coins_ok [a, b, c] (by simp))
end Mine
end

section
open PySem PySem.W PyProof.Rows PySem.Calls
set_option Elab.async false
set_option maxRecDepth 100000
set_option maxHeartbeats 32000000
namespace Mine
theorem lt_in2 {d e a : Addr} {o : Obj} {news : List (Addr × Obj)} (h2 : @LT.lt Nat _ d e) (h : ∀ p ∈ news, @LT.lt Nat _ p.1 d) (hm : (a, o) ∈ news) : @LT.lt Nat _ a e := Nat.lt_trans (lt_in h hm) h2
local macro_rules | `(tactic| k_lt $_h:ident) => `(tactic| skip)
local macro_rules | `(tactic| k_ne) => `(tactic| (refine neN ?_; (try dsimp only); first | exact NeA.out (by with_reducible assumption) | exact (NeA.out (by with_reducible assumption)).symm | exact offL_ne (by with_reducible assumption) (by k_mem) | exact (offL_ne (by with_reducible assumption) (by k_mem)).symm | exact Nat.ne_of_lt (lt_in (by with_reducible assumption) (by k_mem)) | exact Nat.ne_of_gt (lt_in (by with_reducible assumption) (by k_mem)) | exact Nat.ne_of_lt (lt_in2 (by with_reducible assumption) (by with_reducible assumption) (by k_mem)) | exact Nat.ne_of_gt (lt_in2 (by with_reducible assumption) (by with_reducible assumption) (by k_mem)) | omega))
section
variable {w : World} {p : Program} {loose : List Str} {mean : ExcName → Option Value} {mg mb : Str → Option Value}
theorem fillTr : ∀ h : Heap, (Mine.hd.heap_39 w.params).In h → PySem.Challenge.rw_xg0080_01 = PySem.Challenge.rw_xg0080_01 := by k_fill; intro _ _; rfl
theorem lt_dp {dp a b R : Nat} (h : dp + b < R) (hab : a ≤ b) : dp + a < R := Nat.lt_of_le_of_lt (Nat.add_le_add_left hab dp) h
theorem some_of {α : Type} {x : Option α} {a b : α} {G : Prop} (e : x = some a) (e' : x = some b) (h : a = b → G) : G := h (Option.some.inj (e.symm.trans e'))
def TurnOf (w : World) (p : Program) (loose : List Str) (mean : ExcName → Option Value) (mg mb : Str → Option Value) (scope : Scope) (x : Str) (px : Pos) (body : List Stmt) : Prop :=
    ∀ (dp un : Nat) (gd : Option (List Code)) (outer : List Env) (A₀ : Around) (base h₀ : Heap) (L fa : Addr) (cd : Value) (s : Shared) (E : Value → Shared → Prop), Below A₀ base outer h₀ → (Mine.hd.heap_39 w.params).In h₀ → Top p loose mean mg mb h₀ → dp + 40 < recursionLimit → un + 500 < cLine →
    TurnB PySem.Challenge.rw_xg0080_01.row.prog w (ktrTop dp un gd (Str.ofString "law") scope L fa cd [] outer) h₀ (envOf (Str.ofString "law") scope L fa cd) L x px body s E
theorem lw_turn : ∃ (nm : Str) (params : Arguments) (q0 q1 q2 q3 q4 q5 q6 : Stmt) (x : Str) (px : Pos) (it0 : PySem.Expr) (body : List Stmt) (ps : Pos) (q8 : Stmt) (decos : List PySem.Expr) (rt : Option PySem.Expr) (tps : List PySem.TypeParam) (scope : Scope) (tsc : Option Scope) (bnd : Str) (fps : Pos),
    PySem.Challenge.pw_xg0080_01.main.body.getLast? = some (.FunctionDef nm params [q0, q1, q2, q3, q4, q5, q6, .For (.Name x px) it0 body [] ps, q8] decos rt tps scope tsc bnd fps) ∧
    TurnOf w p loose mean mg mb scope x px body := by
  refine' ⟨_, _, _, _, _, _, _, _, _, _, _, _, _, _, _, _, _, _, _, _, _, _, ?k6, ?_⟩
  case k6 => exact rfl
  intro dp un gd outer A₀ base h₀ L fa cd s E B' X' T' hdp hun
  intro I k t cs lv ep n D m₁ rs o7 o8 c7 x7 c8 x8 tw th tl tn u1 u2 u3 u4 u5 u6 u7 h tk it a1 a2 a3 a4 a5 a6 a7 a8 a9 b1 b2 b3 b4 b5 b6 b7 b8 b9 b10 b11 a10 F' N'
  have ok : TurnOk k n cs rs := ⟨a1, a2, a3, a5, a6, a7⟩
  (try k_fold)
  repeat' (
    first
    | (k_unfold; (try dsimp only)) | (k_end; wrow_close)
    | ((with_reducible show wpAny _ _ (binaryOp Operator.Mult (Value.str _ _) (Value.int _ _)) _ _ _); (k_here; (refine g_muls ?_ ?_); rotate_left; intro t' k'))
    | ((with_reducible show wpAny _ _ (subscriptTail _ _ _ _) _ _ _); (k_here; (with_reducible show wpAny _ _ (subscriptTail _ (Expr.Slice none (some _) none _) (Value.ref _) (Value.ref _)) _ _ _); (with_reducible rename Fr _ _ _ _ => F'); (with_reducible rename News _ _ _ _ => N'); k_dflt (refine' g_sliceS (s := ⟨_, _, _, _, _⟩) F' N' ?a ?i ?_ ?_ ?b ?c; (case a => k_mem); (case i => with_reducible assumption); (case b => with_unfolding_all rfl); (case c => (intro _; with_unfolding_all rfl))); rotate_left; intro D' vs' h' hS' F' N' l1; (try k_lt l1)))
    | ((with_reducible show wpAny _ _ (call (Value.type "int") _ _) _ _ _); (k_here; (with_reducible refine g_intL ?_ ?_); rotate_left))
    | ((with_reducible show wpAny _ _ (subscriptTail _ _ _ _) _ _ _); (k_here; (with_reducible show wpAny _ _ (subscriptTail _ (Expr.Slice (some _) none none _) (Value.str _ _) (Value.ref _)) _ _ _); (with_reducible rename Fr _ _ _ _ => F'); (with_reducible rename News _ _ _ _ => N'); k_dflt (refine' g_slice1 (s := ⟨_, _, _, _, _⟩) F' N' ?_ ?_ ?b ?c; (case b => with_unfolding_all rfl); (case c => (intro _; with_unfolding_all rfl))); rotate_left; intro h' t' k' F' N'))
    | ((with_reducible show wpAny _ _ (call (Value.builtin "re.Match.group") _ _) _ _ _); (k_here; k_dflt (refine' g_group ?k1 ?k2 ?k3 ?_ ?_; (case k1 => k_asm); (case k2 => k_mem); (case k3 => k_mem)); rotate_left; intro t' tk'))
    | ((with_reducible show wpAny _ _ (call (Value.builtin "re.Pattern.search") _ _) _ _ _); (k_here; k_dflt (refine' g_searchO ?k1 ?k2 ?k3 ?_ ?_; (case k1 => k_asm); (case k2 => k_asm); (case k3 => k_asm)); rotate_left; intro M' T' h' F' N' l1 l2; (try k_lt l1); (try k_lt2 l2)))
    | ((with_reducible show wpAny _ _ (getMethod (Value.ref _) _ _) _ _ _); (k_here; k_dflt (refine' g_mgroup ?k1 ?k2 ?_; (case k1 => k_asm); (case k2 => k_mem))))
    | ((with_reducible show wpAny _ _ (getMethod (Value.ref _) _ _) _ _ _); (k_here; k_dflt (refine' g_psearch ?k1 ?k2 ?_; (case k1 => k_asm); (case k2 => k_asm))))
    | ((with_reducible show wpAny _ _ (binaryOp Operator.Add (Value.ref _) (Value.ref _)) _ _ _); (k_here; k_dflt (refine' g_addl ?k1 ?k2 ?k3 ?k4 ?k5 ?k6 ?_ ?_; (case k1 => k_asm); (case k2 => k_asm); (case k3 => k_mem); (case k4 => k_mem); (case k5 => first | with_reducible assumption | exact .cons _ _ .nil); (case k6 => first | with_reducible assumption | exact .cons _ _ .nil)); rotate_left; intro l' h' vs' hI' F' N' l1; (try k_lt l1)))
    | ((with_reducible show wpAny _ _ (compareOp CmpOp.IsNot (Value.bool _) (Value.bool _)) _ _ _); (k_here; (refine g_isnot ?_ ?_); rotate_left))
    | (exact ⟨_, _, rfl, rfl⟩)
    | ((with_reducible show wpAny _ _ (call (Value.builtin "list.remove") _ _) _ _ _); (k_here; k_dflt (refine' g_remove ?F ?N ?u ?i ?_ ?_; (case F => k_asm); (case N => k_asm); (case u => k_updF); (case i => with_reducible assumption)); rotate_left; intro h' vs' ep' hS' F' N'; (try dsimp only at N')))
    | ((with_reducible show wpAny _ _ (call (Value.builtin "str.split") _ _) _ _ _); (k_here; k_dflt (refine' g_split ?F ?N ?y ?_ ?_; (case F => k_asm); (case N => k_asm); (case y => decide)); rotate_left; intro D' vs' h' tk' hS' F' N' l1; (try k_lt l1)))
    | ((with_reducible show wpAny _ _ (call (Value.builtin "list.index") _ _) _ _ _); (k_here; k_dflt (refine' g_index ?N ?a ?i ?_ ?_; (case N => k_asm); (case a => k_mem); (case i => with_reducible assumption)); rotate_left; intro j' hj' hn'))
    | ((with_reducible show wpAny _ _ (compareOp CmpOp.NotEq (Value.ref _) (Value.ref _)) _ _ _); (k_here; k_dflt (refine' g_neL ?N ?a ?b ?i ?j ?_ ?_; (case N => k_asm); (case a => k_mem); (case b => k_mem); (case i => first | with_reducible assumption | exact .cons _ _ (.cons _ _ .nil)); (case j => first | with_reducible assumption | exact .cons _ _ (.cons _ _ .nil))); rotate_left))
    | ((with_reducible show wpAny _ _ (compareOp CmpOp.NotEq (Value.int _ _) (Value.int _ _)) _ _ _); (k_here; (refine g_neI ?_ ?_); rotate_left))
    | ((with_reducible show wpAny _ _ (compareOp CmpOp.NotEq (Value.str _ _) (Value.str _ _)) _ _ _); (k_here; (refine g_neS ?_ ?_); rotate_left))
    | ((with_reducible show wpAny _ _ (call (Value.builtin "str.join") _ _) _ _ _); (k_here; k_dflt (refine' g_join ?N ?a ?i ?_ ?_; (case N => k_asm); (case a => k_mem); (case i => with_reducible assumption)); rotate_left; intro t' tk'))
    | ((with_reducible show wpAny _ _ (binaryOp Operator.Add (Value.ref _) (Value.ref _)) _ _ _); (k_here; k_dflt (refine' g_addS ?F ?N ?a ?b ?i ?_ ?_; (case F => k_asm); (case N => k_asm); (case a => k_mem); (case b => k_mem); (case i => with_reducible assumption)); rotate_left; intro l' h' vs' hS' F' N' l1; (try k_lt l1)))
    | ((with_reducible show LCg.CompSrc _ _ _ _ _ _ _ _ _ _ _ _ _ _); (k_here; k_dflt (refine' lc_ints ?h ?F ?N ?m ?i ?_ ?_ ?_; (case h => exact rfl); (case F => k_asm); (case N => k_asm); (case m => k_mem); (case i => with_reducible assumption)); rotate_left; (intro g' c' t' I' oI' C' oC' D' m' ys' h' tk' E' hlo' hhi' hC' hx' F' N' off' ne'); rotate_left; (intro g' ys' hS'); rotate_left; rotate_left))
    | ((with_reducible show LCg.CompSrc _ _ _ _ _ _ _ _ _ _ _ _ _ _); (k_here; k_dflt (refine' lc_strs (Str.ofString "\t") ?h ?F ?N ?m ?i ?_ ?_ ?_; (case h => exact rfl); (case F => k_asm); (case N => k_asm); (case m => k_mem); (case i => with_reducible assumption)); rotate_left; (intro g' c' t' I' oI' C' oC' D' m' ys' h' tk' E' hlo' hC' hx' F' N' off' ne'); rotate_left; (intro g' ys' hS'); rotate_left; rotate_left))
    | ((with_reducible show wpAny _ _ (eval (Expr.ListComp _ _ _ _) _) _ _ _); (k_here; k_dflt (refine LCg.ListComp_U (F₀ := by k_asm) (by with_unfolding_all rfl) (by decide) (by rfl) (by decide) (by rfl) ?_)))
    | ((with_reducible show wpAny _ _ (call (Value.ref _) _ _) _ _ _); (k_here; k_dflt (refine' use_dp_any ?k1 ?k2 ?k3 ?k4 ?k5 ?k6 ?k7 ?k8 ?k9 ?k10 ?k11 ?k12 ?k13 ?k14 ?k15 ?k16 ?k17 ?_ ?_; (case k1 => k_asm); (case k2 => k_asm); (case k3 => k_asm); (case k4 => k_asm); (case k5 => k_asm); (case k6 => exact rfl); (case k7 => k_mem); (case k8 => k_mem); (case k9 => with_reducible assumption); (case k10 => with_reducible assumption); (case k11 => with_reducible assumption); (case k12 => k_updF); (case k13 => k_mem); (case k14 => with_reducible assumption); (case k15 => with_reducible assumption); (case k16 => with_reducible assumption); (case k17 => k_mem)); rotate_left; intro T' q' r' t1' t2' c' oc' vs' tc' h' tk' hq' hr' hd1' hd2' F' N' l1 n1' n2' n3' n4'; (try dsimp only at N'); (try dsimp only); (try k_fold)))
    | ((with_reducible show wpAny _ _ (call (Value.ref _) _ _) _ _ _); (k_here; k_dflt (refine' use_um ?k1 ?k2 ?k3 ?k4 ?k5 ?k6 ?k7 ?k8 ?_ ?_; (case k1 => k_asm); (case k2 => k_asm); (case k3 => k_asm); (case k4 => k_asm); (case k5 => k_asm); (case k6 => exact rfl); (case k7 => k_mem); (case k8 => k_mem)); rotate_left; intro t' h' tk' F' N'; (try dsimp only); (try k_fold)))
    | ((with_reducible show wpAny _ _ (call (Value.ref _) _ _) _ _ _); (k_here; k_dflt (refine' use_lu ?k1 ?k2 ?k3 ?k4 ?k5 ?k6 ?k7 ?k8 ?_ ?_; (case k1 => k_asm); (case k2 => k_asm); (case k3 => k_asm); (case k4 => k_asm); (case k5 => k_asm); (case k6 => exact rfl); (case k7 => k_mem); (case k8 => with_reducible assumption)); rotate_left; intro t' h' tk' F' N'; (try dsimp only); (try k_fold)))
    | ((with_reducible show wpAny _ _ (call (Value.ref _) _ _) _ _ _); (k_here; k_dflt (refine' use_il ?k1 ?k2 ?k3 ?k4 ?k5 ?k6 ?q1 ?q2 ?q3 ?q4 ?q5 ?q6 ?q7 ?q8 ?_ ?_; (case k1 => k_asm); (case k2 => k_asm); (case k3 => k_asm); (case k4 => k_asm); (case k5 => k_asm); (case k6 => exact rfl); (case q1 => k_mem); (case q2 => k_mem); (case q3 => k_mem); (case q4 => k_mem); (case q5 => with_reducible assumption); (case q6 => with_reducible assumption); (case q7 => with_reducible assumption); (case q8 => with_reducible assumption)); rotate_left; intro t' h' tk' F' N'; (try dsimp only); (try k_fold)))
    | ((with_reducible show wpAny _ _ (call (Value.ref _) _ _) _ _ _); (k_here; k_dflt (refine' use_i2_any ?k1 ?k2 ?k3 ?k4 ?k5 ?k6 ?k7 ?k8 ?k9 ?k10 ?k11 ?k12 ?k13 ?k14 ?_ ?_; (case k1 => k_asm); (case k2 => k_asm); (case k3 => k_asm); (case k4 => k_asm); (case k5 => exact rfl); (case k6 => k_asm); (case k7 => with_reducible assumption); (case k8 => k_updF); (case k9 => k_mem); (case k10 => k_mem); (case k11 => with_reducible assumption); (case k12 => with_reducible assumption); (case k13 => with_reducible assumption); (case k14 => k_mem)); rotate_left; intro l' its' ep' c' oc' vs' t' h' tk' hI' hd1' hd2' F' N' l1 n1' n2' n3' n4'; (try dsimp only at N'); (try dsimp only); (try k_fold)))
    | ((with_reducible show wpAny _ _ (call (Value.ref _) _ _) _ _ _); (k_here; k_dflt (refine' use_hdn ?k1 ?k2 ?k3 ?k4 ?k5 ?k6 ?_ ?_; (case k1 => k_asm); (case k2 => k_asm); (case k3 => k_asm); (case k4 => k_asm); (case k5 => k_asm); (case k6 => exact rfl)); rotate_left; intro h' tk' F' N'; (try dsimp only); (try k_fold)))
    | ((with_reducible show wpAny _ _ (call (Value.ref _) _ _) _ _ _); (k_here; k_dflt (refine' use_wi ?k1 ?k2 ?k3 ?k4 ?k5 ?k6 ?_ ?_; (case k1 => k_asm); (case k2 => k_asm); (case k3 => k_asm); (case k4 => k_asm); (case k5 => k_asm); (case k6 => exact rfl)); rotate_left; intro x' dx' D' TT' lv' sb' t1' t2' t3' t4' t5' tn' tt' tb' k' h' tk' hI' lt1' lt2' lt3' F' N' l1 l2 l3 l4; (try replace l1 := OffL.mk l1); (try replace l2 := OffL.mk l2); (try replace l3 := OffL.mk l3); (try replace l4 := OffL.mk l4); (try dsimp only); (try k_fold)))
    | ((with_reducible show wpAny _ _ (call (Value.ref _) _ _) _ _ _); (k_here; k_dflt (refine' use_ways ?k1 ?k2 ?k3 ?k4 ?k5 ?k6 ?k7 ?k8 ?_ ?_; (case k1 => k_asm); (case k2 => k_asm); (case k3 => k_asm); (case k4 => k_asm); (case k5 => k_asm); (case k6 => exact rfl); (case k7 => k_mem); (case k8 => with_reducible assumption)); rotate_left; intro l' lv' ep' h' tk' hI' F' N' l1; (try replace l1 := OffL.mk l1); (try dsimp only); (try k_fold)))
    | ((with_reducible show wpAny _ _ (binaryOp Operator.Add (Value.str _ _) (Value.str _ _)) _ _ _); (k_here; (with_reducible show wpAny _ _ (binaryOp Operator.Add (Value.str _ _) (Value.str _ _)) _ _ _); (refine g_adds ?_ ?_); rotate_left; intro t' tk'))
    | walk1 | (dsimp only; walk1) | (leave1; walk_say "STEP leave1"; try dsimp only) | fail "no step")
  all_goals (first
    | exact ⟨ow_ways ok, lt_dp hdp (by decide), lt_dp hun (by decide)⟩
    | exact ⟨ow_lead ok⟩
    | exact ⟨ow_ws ok, lt_dp hdp (by decide), lt_dp hun (by decide)⟩
    | exact ⟨ow_src ok⟩
    | exact ⟨ow_map ok⟩
    | exact ⟨ow_join ok⟩
    | exact ⟨ow_host ok⟩
    | exact ⟨ow_rx ok, lt_dp hdp (by decide), lt_dp hun (by decide)⟩
    | exact ⟨ow_hdn ok⟩
    | exact ⟨ow_i2 ok, lt_dp hdp (by decide), lt_dp hun (by decide)⟩
    | exact ⟨ow_digs ok, (lt_dp hun (by decide) : un + 64 < cLine)⟩
    | exact ⟨ow_level ok, (lt_dp hun (by decide) : un + 64 < cLine)⟩
    | exact ⟨ow_lu ok, lt_dp hdp (by decide), lt_dp hun (by decide)⟩
    | exact ⟨ow_app ok⟩
    | exact ⟨ow_idx ok⟩
    | exact ⟨ow_brown ok (by assumption) (by assumption)⟩
    | exact ⟨ow_rx ok, ow_len1 ok (by assumption)⟩
    | exact ⟨ow_len4 ok⟩
    | exact ⟨ow_ext ok⟩
    | exact ⟨Nat.add_le_add_left (Nat.mul_le_mul_left _ (Nat.sub_le _ _)) _, Nat.le_refl _, ow_len4 ok, lt_dp hdp (by decide), lt_dp hun (by decide)⟩
    | exact ⟨ow_mul ok (by assumption)⟩
    | exact ⟨ow_shl ok (by assumption)⟩
    | exact ⟨ow_dp ok (by assumption), lt_dp hdp (by decide), lt_dp hun (by decide)⟩
    | exact ⟨(ow_quot ok (by assumption) (by assumption) (by assumption)).2⟩
    | exact ⟨Nat.le_trans (lead_len ok) (by decide)⟩
    | exact ⟨ow_split ok⟩
    | exact ⟨ow_last ok (by assumption)⟩
    | exact ⟨ow_rem ok (by assumption)⟩
    | exact ⟨ow_runs ok (by assumption)⟩
    | exact ⟨ow_glue ok (by assumption)⟩
    | (refine Owe.mk ?_; rw [l_tab]; omega)
    | (refine' lw_end1 ok ?h0 ?h1 ?h2 ?hF ?hN ?q1 ?q2 ?q3 ?q4 ?q5 ?q6 ?d1 ?d2 ?d3 ?d4 ?n1 ?n2 ?n3 ?n4 ?n5 ?n6 ?v
       case h0 => assumption
       case h1 => assumption
       case h2 => assumption
       case hF => k_asm
       case hN => k_asm
       case d2 => with_reducible assumption
       case d4 => with_reducible assumption
       case d1 => with_reducible assumption
       case d3 => with_reducible assumption
       case q1 => k_mem
       case q2 => k_mem
       case q3 => k_mem
       case q4 => k_mem
       case q5 => k_mem
       case q6 => k_mem
       case n1 => with_reducible assumption
       case n2 => with_reducible assumption
       case n3 => with_reducible assumption
       case n4 => with_reducible assumption
       case n5 => with_reducible assumption
       case n6 => with_reducible assumption
       case v => exact ⟨rfl, ⟨_, rfl⟩, ⟨_, rfl⟩, ⟨_, rfl⟩, ⟨_, rfl⟩⟩)
    | (refine' lw_end0 ok (by assumption) (by assumption) (by assumption) ?q1 ?q2 ?q3 ?q4 ?q5 ?q6 (by assumption) (by assumption) (by assumption) ?n1 ?n2 ?n3 ?n4 ?n5 ?n6 ?v
       case q1 => k_mem
       case q2 => k_mem
       case q3 => k_mem
       case q4 => k_mem
       case q5 => k_mem
       case q6 => k_mem
       case n1 => with_reducible assumption
       case n2 => with_reducible assumption
       case n3 => with_reducible assumption
       case n4 => with_reducible assumption
       case n5 => with_reducible assumption
       case n6 => with_reducible assumption
       case v => exact ⟨rfl, ⟨_, rfl⟩, ⟨_, rfl⟩, ⟨_, rfl⟩, ⟨_, rfl⟩⟩)
    | skip)
end
end Mine
end

section
open PySem PySem.W PyProof.Rows PySem.Calls
set_option Elab.async false
set_option maxRecDepth 100000
set_option maxHeartbeats 32000000
namespace Mine
theorem lw_turn_of {w : World} {p : Program} {loose : List Str} {mean : ExcName → Option Value} {mg mb : Str → Option Value} {nm : Str} {params : Arguments} {q0 q1 q2 q3 q4 q5 q6 : Stmt} {x : Str} {px : Pos} {it0 : PySem.Expr} {body : List Stmt} {ps : Pos} {q8 : Stmt} {decos : List PySem.Expr} {rt : Option PySem.Expr} {tps : List PySem.TypeParam} {scope : Scope} {tsc : Option Scope} {bnd : Str} {fps : Pos}
    (hl : PySem.Challenge.pw_xg0080_01.main.body.getLast? = some (.FunctionDef nm params [q0, q1, q2, q3, q4, q5, q6, .For (.Name x px) it0 body [] ps, q8] decos rt tps scope tsc bnd fps)) : TurnOf w p loose mean mg mb scope x px body := by
  obtain ⟨nm', params', q0', q1', q2', q3', q4', q5', q6', x', px', it0', body', ps', q8', decos', rt', tps', scope', tsc', bnd', fps', hl', ht⟩ := lw_turn (w := w) (p := p) (loose := loose) (mean := mean) (mg := mg) (mb := mb)
  refine some_of hl hl' fun e => ?_
  injection e with e1 e2 e3 e4 e5 e6 e7 e8 e9 e10
  injection e3 with f0 g
  injection g with f1 g
  injection g with f2 g
  injection g with f3 g
  injection g with f4 g
  injection g with f5 g
  injection g with f6 g
  injection g with f7 g
  injection f7 with k1 k2 k3 k4 k5
  injection k1 with k6 k7
  subst k6 k7 k3 e7
  exact ht
theorem lw_turn_use {w : World} {p : Program} {loose : List Str} {mean : ExcName → Option Value} {mg mb : Str → Option Value} {nm : Str} {params : Arguments} {q0 q1 q2 q3 q4 q5 q6 : Stmt} {x : Str} {px : Pos} {it0 : PySem.Expr} {body : List Stmt} {ps : Pos} {q8 : Stmt} {decos : List PySem.Expr} {rt : Option PySem.Expr} {tps : List PySem.TypeParam} {scope : Scope} {tsc : Option Scope} {bnd : Str} {fps : Pos}
    {dp un : Nat} {gd : Option (List Code)} {outer : List Env} {A₀ : Around} {base h₀ : Heap} {L fa : Addr} {cd : Value} {s : Shared} {E : Value → Shared → Prop}
    (B : Below A₀ base outer h₀) (X : (Mine.hd.heap_39 w.params).In h₀) (T : Top p loose mean mg mb h₀) (hdp : dp + 40 < recursionLimit) (hun : un + 500 < cLine)
    (hl : PySem.Challenge.pw_xg0080_01.main.body.getLast? = some (.FunctionDef nm params [q0, q1, q2, q3, q4, q5, q6, .For (.Name x px) it0 body [] ps, q8] decos rt tps scope tsc bnd fps)) :
    TurnB PySem.Challenge.rw_xg0080_01.row.prog w (ktrTop dp un gd (Str.ofString "law") scope L fa cd [] outer) h₀ (envOf (Str.ofString "law") scope L fa cd) L x px body s E :=
  lw_turn_of hl dp un gd outer A₀ base h₀ L fa cd s E B X T hdp hun
end Mine
end

section
open PySem PySem.W PyProof.Rows PySem.Calls
set_option Elab.async false
set_option maxRecDepth 100000
set_option maxHeartbeats 32000000
namespace Mine
local macro_rules | `(tactic| k_ne) => `(tactic| (refine neN ?_; (try dsimp only); first | exact NeA.out (by with_reducible assumption) | exact (NeA.out (by with_reducible assumption)).symm | omega))
theorem lm_t8 (a : Int) : (1 + a % 8).toNat ≤ 8 := by lia
theorem lm_mill {x y : Nat} (h : x ≤ y) (h2 : y ≤ 1000000) : x ≤ 1000000 := Nat.le_trans h h2
theorem lm_l (n : Nat) : @OfNat.ofNat Nat n (instOfNatNat n) ≤ @OfNat.ofNat Nat n (instOfNatNat n) := Nat.le_refl _
theorem lm_1 {x y : Nat} (h : x ≤ y) : x + 1 ≤ y + 1 := Nat.add_le_add_right h 1
theorem lm_0 {x y : Nat} (h : x ≤ y) : x + 0 ≤ y := h
theorem lm_8 {x y : Nat} {a : Int} (h : x ≤ y) : x + (1 + a % 8).toNat ≤ y + 8 := Nat.add_le_add h (lm_t8 a)
theorem lm_2 {x y z w : Nat} (h : x ≤ y) (h' : z ≤ w) : x + z ≤ y + w := Nat.add_le_add h h'
theorem lw_main : PySem.Challenge.rw_xg0080_01.Holds := Mine.hd (by
  k_go0
  (all_goals try k_fold)
  repeat' (
    first
    | (k_unfold; (try dsimp only)) | (k_end; wrow_close)
    | ((with_reducible rename ((_ ≠ _ ∧ _ ≠ _ ∧ _ ≠ _) ∧ (_ ≠ _ ∧ _ ≠ _ ∧ _ ≠ _) ∧ _ ≠ _ ∧ _ ≠ _ ∧ _ ≠ _) => q'); have n1' := NeA.mk q'.1.1; have n2' := NeA.mk q'.1.2.1; have n3' := NeA.mk q'.1.2.2; have n4' := NeA.mk q'.2.1.1; have n5' := NeA.mk q'.2.1.2.1; have n6' := NeA.mk q'.2.1.2.2; have n7' := NeA.mk q'.2.2.1; have n8' := NeA.mk q'.2.2.2.1; have n9' := NeA.mk q'.2.2.2.2; clear q')
    | ((with_reducible show wpAny _ _ (call (Value.type "range") _ _) _ _ _); (k_here; (with_reducible show wpAny _ _ (call (Value.type "range") [_, _, _]) _ _ _); (with_reducible rename Fr _ _ _ _ => wF); (with_reducible rename News _ _ _ _ => wN); k_dflt (refine' lw_loop ?hh ?wF ?wN ?k1 ?k2 ?k3 ?k4 ?k5 ?k6 ?k7 ?k8 ?k9 ?_ ?_ ?_; (case hh => exact rfl); (case wF => exact wF); (case wN => exact wN); (case k7 => exact rfl); (case k1 => k_mem); (case k2 => k_mem); (case k3 => k_mem); (case k4 => exact .cons _ _ (.cons _ _ (.cons _ _ (.cons _ _ .nil)))); (case k5 => k_ne); (case k6 => k_ne); (case k8 => exact rfl); (case k9 => exact ⟨_, _, _, rfl, rfl, rfl⟩)); rotate_left; rotate_left; intro m' ps7' ps8' h' tk' F' N'; (try dsimp only); (try k_fold)))
    | ((with_reducible show wpAny _ _ (exec (Stmt.For _ _ _ _ _) _) _ _ _); (k_here; k_dflt (refine For_turns (by k_asm) ?_)))
    | ((with_reducible show wpAny _ _ (binaryOp Operator.Mult (Value.str _ _) (Value.int _ _)) _ _ _); (k_here; (refine g_muls ?_ ?_); rotate_left; intro t' k'))
    | ((with_reducible show wpAny _ _ (binaryOp Operator.Add (Value.str _ _) (Value.str _ _)) _ _ _); (k_here; (with_reducible show wpAny _ _ (binaryOp Operator.Add (Value.str _ _) (Value.str _ _)) _ _ _); (refine g_adds ?_ ?_); rotate_left; intro t' tk'))
    | ((with_reducible show wpAny _ _ (call (Value.ref _) _ _) _ _ _); (k_here; k_dflt (refine' use_tot4 ?k1 ?k2 ?k3 ?k4 ?k5 ?k6 ?k7 ?k8 ?_ ?_; (case k1 => k_asm); (case k2 => k_asm); (case k3 => k_asm); (case k4 => k_asm); (case k5 => k_asm); (case k6 => exact rfl); (case k7 => assumption); (case k8 => assumption)); rotate_left; intro l' a' b' c' d' ta' tb' tc' td' ep' h' tk' e1' e2' e3' e4' F' N' l1; (try (have l0 := l1; replace l1 := allNe_of l1; simp only [AllNe, and_true] at l1)); (try dsimp only); (try k_fold)))
    | walk1 | (dsimp only; walk1) | (leave1; walk_say "STEP leave1"; try dsimp only) | fail "no step")
  all_goals (first
    | (with_reducible refine Owe.mk (wc_mul _ _))
    | (with_reducible refine Owe.mk (blank_ok _))
    | (with_reducible refine Owe.mk (first_ok (coin_ok _) (coin_ok _) (coin_ok _) (coin_ok _) (wide_ok _)))
    | ((with_reducible show Owe (_ ≤ 1000000)); refine Owe.mk ?_; simp only [PySem.Str.length_append, mulS_len, figC_len, l_tab, l_nil, l_dot, l_purse, l_pursed]; refine' lm_mill ?lma ?lmb; (case lma => repeat' (first | with_reducible apply lm_t8 | with_reducible apply lm_l | with_reducible apply lm_1 | with_reducible apply lm_0 | with_reducible apply lm_8 | with_reducible apply lm_2)); (case lmb => decide))
    | skip)
  rotate_left
  (with_reducible refine Owe.mk (wc_shl3 _ _ _ _ _))
  (with_reducible refine Owe.mk (wc_shl2 _ _ _ _))
  (with_reducible refine Owe.mk (wc_shl1 _ _ _))
  (with_reducible refine Owe.mk (wc_shl0 _ _))
  refine Owe.mk ⟨?_, ?_, ?_⟩
  · omega
  · decide
  · decide
  refine' Later.mk (lw_turn_use ?hB1 ?hX1 ?hT1 ?hd1 ?hu1 rfl)
  case hB1 => k_asm
  case hX1 => k_asm
  case hT1 => k_asm
  case hd1 => decide
  case hu1 => decide)
end Mine
end

set_option maxRecDepth 100000 in
set_option maxHeartbeats 8000000 in
theorem PySem.Challenge.cw_xg0080_01_holds : PySem.Challenge.rw_xg0080_01.Holds := by
  exact Mine.lw_main
