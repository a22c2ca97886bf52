import PyProof.Rows.All
import Wide.All
import OpenK.AllK
import Wide.FinOn
import PySem.Challenge.RW_fe0056_01
/-! Murmur3Token.hash_fn: the law's inverse of murmur3. The parts: bit laws; a def entered with all that was made held fast; the head; each small def by a contract; _struct.unpack; murmur3 of 16 and of 32 octets; the law's key; the plain law in 64 bits; the law's own walk. -/
set_option Elab.async false
namespace Mine
section
open PySem PySem.W PyProof.Rows
open PySem.Builtin.Int (intBits)
open PySem.Builtin (bitAnd bitOr bitXor bitNot)

/-! sizes -/
theorem and_abs (x y : Int) : (bitAnd x y).natAbs ≤ x.natAbs + y.natAbs := by
  by_cases hx : 0 ≤ x <;> by_cases hy : 0 ≤ y
  · rw [bitAnd_pp hx hy]
    have := @Nat.and_le_left x.toNat y.toNat
    omega
  · rw [bitAnd_pn hx hy]
    have := @Nat.and_le_left x.toNat (bitNot y).toNat
    omega
  · rw [bitAnd_np hx hy]
    have := @Nat.and_le_left y.toNat (bitNot x).toNat
    omega
  · rw [bitAnd_nn hx hy]
    have h1 := nat_or_add_and (bitNot x).toNat (bitNot y).toNat
    unfold bitNot at *
    omega
theorem bits_and {x y : Int} {m n : Nat} (hx : intBits x ≤ m) (hy : intBits y ≤ n) : intBits (bitAnd x y) ≤ max m n + 1 := by
  have h1 := lt_pow_of_bits hx (Nat.le_max_left m n)
  have h2 := lt_pow_of_bits hy (Nat.le_max_right m n)
  have h3 := and_abs x y
  refine intBits_le_iff.mpr ?_
  rw [Nat.pow_succ]
  generalize 2 ^ max m n = p at h1 h2
  omega
theorem bits_or {x y : Int} {m n : Nat} (hx : intBits x ≤ m) (hy : intBits y ≤ n) : intBits (bitOr x y) ≤ max m n + 2 := by
  have h1 := lt_pow_of_bits hx (Nat.le_max_left m n)
  have h2 := lt_pow_of_bits hy (Nat.le_max_right m n)
  have h3 := and_abs x y
  refine intBits_le_iff.mpr ?_
  rw [Nat.pow_succ, Nat.pow_succ, bitOr_and]
  generalize 2 ^ max m n = p at h1 h2
  omega
theorem bits_xor {x y : Int} {m n : Nat} (hx : intBits x ≤ m) (hy : intBits y ≤ n) : intBits (bitXor x y) ≤ max m n + 3 := by
  have h1 := lt_pow_of_bits hx (Nat.le_max_left m n)
  have h2 := lt_pow_of_bits hy (Nat.le_max_right m n)
  have h3 := and_abs x y
  refine intBits_le_iff.mpr ?_
  rw [Nat.pow_succ, Nat.pow_succ, Nat.pow_succ, bitXor_and]
  generalize 2 ^ max m n = p at h1 h2
  omega

/-! the image in 64 bits -/
abbrev B (x : Int) : BitVec 64 := BitVec.ofInt 64 x
theorem B_add (x y : Int) : B (x + y) = B x + B y := BitVec.ofInt_add x y
theorem B_mul (x y : Int) : B (x * y) = B x * B y := BitVec.ofInt_mul x y
theorem B_sub (x y : Int) : B (x - y) = B x - B y := by
  rw [Int.sub_eq_add_neg, B_add, B, B, BitVec.ofInt_neg, BitVec.sub_eq_add_neg]
theorem B_not (x : Int) : B (bitNot x) = ~~~ B x := by
  unfold bitNot
  rw [B_sub, show (-x) = 0 - x by omega, B_sub]
  show 0#64 - B x - 1#64 = _
  have h := BitVec.neg_eq_not_add (B x)
  generalize B x = X at h ⊢
  generalize ~~~ X = Y at h ⊢
  grind
theorem B_nat (n : Nat) : B (n : Int) = BitVec.ofNat 64 n := BitVec.ofInt_natCast 64 n
theorem sub_and (X Y : BitVec 64) : X - (X &&& Y) = X &&& ~~~Y := by
  have h : (X &&& Y) + (X &&& ~~~Y) = (X &&& Y) ||| (X &&& ~~~Y) := BitVec.add_eq_or_of_and_eq_zero _ _ (by ext i hi; simp; grind)
  have h2 : (X &&& Y) ||| (X &&& ~~~Y) = X := by ext i hi; simp; grind
  rw [h2] at h
  generalize X &&& Y = P at h ⊢
  generalize X &&& ~~~Y = R at h ⊢
  grind
theorem B_toNat {x : Int} (hx : 0 ≤ x) : BitVec.ofNat 64 x.toNat = B x := by rw [← B_nat, Int.toNat_of_nonneg hx]
theorem B_and (x y : Int) : B (bitAnd x y) = B x &&& B y := by
  by_cases hx : 0 ≤ x <;> by_cases hy : 0 ≤ y
  · rw [bitAnd_pp hx hy, B_nat, BitVec.ofNat_and, B_toNat hx, B_toNat hy]
  · have hy' := bitNot_nonneg.mpr hy
    rw [bitAnd_pn hx hy, B_sub, B_nat, BitVec.ofNat_and, B_toNat hx, B_toNat hy', B_not, sub_and, BitVec.not_not]
  · have hx' := bitNot_nonneg.mpr hx
    rw [bitAnd_np hx hy, B_sub, B_nat, BitVec.ofNat_and, B_toNat hy, B_toNat hx', B_not, sub_and, BitVec.not_not, BitVec.and_comm]
  · have hx' := bitNot_nonneg.mpr hx
    have hy' := bitNot_nonneg.mpr hy
    rw [bitAnd_nn hx hy, B_not, B_nat, BitVec.ofNat_or, B_toNat hx', B_toNat hy', B_not, B_not]
    ext i hi; simp
theorem B_or (x y : Int) : B (bitOr x y) = B x ||| B y := by
  unfold bitOr
  rw [B_not, B_and, B_not, B_not]
  ext i hi; simp
theorem or_sub_and (X Y : BitVec 64) : (X ||| Y) - (X &&& Y) = X ^^^ Y := by
  have h : (X &&& Y) + (X ^^^ Y) = (X &&& Y) ||| (X ^^^ Y) := BitVec.add_eq_or_of_and_eq_zero _ _ (by ext i hi; simp; grind)
  have h2 : (X &&& Y) ||| (X ^^^ Y) = X ||| Y := by ext i hi; simp; grind
  rw [h2] at h
  generalize X &&& Y = P at h ⊢
  generalize X ^^^ Y = R at h ⊢
  generalize X ||| Y = S at h ⊢
  grind
theorem B_xor (x y : Int) : B (bitXor x y) = B x ^^^ B y := by
  unfold bitXor
  rw [B_sub, B_or, B_and, or_sub_and]
end
section
open PySem PySem.W PyProof.Rows
open PySem.Builtin.Int (intBits)
open PySem.Builtin (bitAnd bitOr bitXor bitNot)
/-! what the small defs compute -/
def rotl (x r : Int) : Int := bitOr (x * 2 ^ r.toNat) (bitAnd (x.fdiv (2 ^ (64 - r).toNat)) (2 ^ r.toNat - 1))
def sh33 (k : Int) : Int := bitXor k (bitAnd (k.fdiv (2 ^ (33 : Int).toNat)) 2147483647)
def fmix (k : Int) : Int := sh33 (sh33 (sh33 k * 18397679294719823053) * 14181476777654086739)
def trunc (x : Int) : Int := if -9223372036854775808 ≤ x ∧ x ≤ 9223372036854775807 then x else (x + 9223372036854775808).fmod 18446744073709551616 - 9223372036854775808
def turned (w p : Int) : Int := (w * 2 ^ p.toNat).fdiv 18446744073709551616 + (w * 2 ^ p.toNat).fmod 18446744073709551616
def undo1 (f x : Int) : Int := (x * (2 - f * x)).fmod 18446744073709551616
def undo (f : Int) : Int := undo1 f (undo1 f (undo1 f (undo1 f (undo1 f f))))
def xs33 (k : Int) : Int := bitXor k (k.fdiv (2 ^ (33 : Int).toNat))
def unmixed (w : Int) : Int := xs33 ((xs33 ((xs33 w * undo 14181476777654086739).fmod 18446744073709551616) * undo 18397679294719823053).fmod 18446744073709551616)
end
section
open PySem PySem.W PyProof.Rows PySem.Calls
open PySem.Builtin.Int (intBits)
set_option maxRecDepth 100000
/-! a def entered with everything made so far held fast: whatever the caller's ledger is, the callee's begins empty -/
theorem enter0 {prog : Program} {w : World} {A A₀ : Around} {s : Shared} {K : Frag} {L : Addr} {h₀ base : Heap} {m mg mb : Str → Option Value} {news : List (Addr × Obj)} {p : Program} {loose : List Str} {mean : ExcName → Option Value}
    {env : Env} {outer : List Env} {R : Result → Shared → Prop} {name qual : Str} {params : Arguments} {body : List Stmt} {scope : Scope} {dV kV doc pm cdv ct oc : Value} {an od : Option Addr} {osl : Array (Option Value)} {f : Addr} {args : Args} {binds : List (Str × Value)}
    (B : Below A₀ base outer h₀) (F : Fr h₀ L s.heap m) (X₀ : K.In h₀) (N : News h₀ L s.heap news) (T : Top p loose mean mg mb h₀) (hA : A.frames = some (env :: outer)) (hf : env.frame = some L) (hke : env.scope.kind = .function)
    (ho : K.lookup f = some ⟨oc, od, .func (fnOf name qual params body scope dV kV doc pm an cdv ct), osl⟩) (hcd : codeIn K cdv qual = true) (hroom : A.depth < recursionLimit)
    (hbind : BindsTo s (fnOf name qual params body scope dV kV doc pm an cdv ct) args binds) (hloc : ∀ y ∈ binds, scope.names.lookup y.1 = some .local)
    (h : ∀ g L' h₁, (∀ a o, s.heap.get? a = some o → g.get? a = some o) → (∀ hh, (∀ a o, g.get? a = some o → hh.get? a = some o) → News h₀ L hh news) → Fr h₀ L g m → Fr g L' h₁ (fun y => binds.reverse.lookup y) → News g L' h₁ [] → Below A base (env :: outer) g → K.In g → Top p loose mean mg mb g →
      wpAny (model prog w) (A.deeper (envOf qual scope L' f cdv)) (execs body (envOf qual scope L' f cdv))
        (fun fl s' => LeaveK h₀ L m g R (match fl with | .ret v => v | _ => .none) s')
        (fun e s' => wpAny (model prog w) (A.deeper (envOf qual scope L' f cdv)) (leaving (envOf qual scope L' f cdv) e) (fun _ s'' => R (.error e) s'') (fun e' s'' => R (.error e') s'') s')
        { s with heap := h₁, toks := s.toks + binds.length })
    (hco : scope.isCoroutine = false) (hgen : scope.isGenerator = false) (hk : scope.kind = .function)
    (hcell : ∀ x ∈ scope.names, x.2 ≠ .cell) : codeAny (model prog w) A (.call (.ref f) args) R s := by
  have gr := groundX (R := R) B F (News.nil (h₀ := h₀) (L := L) (h := s.heap)) hA hf hke
  have hat : s.heap.get? f = some ⟨oc, od, .func (fnOf name qual params body scope dV kV doc pm an cdv ct), osl⟩ := (X₀.keeps F.keep) _ _ ho
  refine codeAny_call_def (fd := fnX name qual params body scope [] dV kV doc pm an cdv ct) (body := body) (binds := binds) hroom hat rfl (T.nolimit.keeps F.keep) (codeRec_of (X₀.keeps F.keep) hcd) rfl hbind hcell hloc (fun h₁ hns hk₁ => ?_) hco hgen hk
  refine wpAny_mono (h s.heap s.heap.objs.size h₁ (fun _ _ e => e) (fun hh k p hp => ⟨k _ _ (N p hp).1, (N p hp).2⟩) gr.1 ⟨hns, fun b o e => hk₁ b o e, Nat.le_refl _⟩ News.nil gr.2.1 (X₀.keeps gr.2.2.1) (T.keeps gr.2.2.1)) (fun fl s' hl => gr.2.2.2 _ _ hl) fun _ _ y => y

/-- what a def of ints tells, from whatever frame it is called; k: how deep it calls -/
abbrev MC (prog : Program) (w : World) (K : Frag) (p : Program) (loose : List Str) (mean : ExcName → Option Value) (mg mb : Str → Option Value) (f : Addr) (k : Nat) (news : List (Addr × Obj)) (pre : Prop) (vs : List Value) (R : Tok → Value) : Prop :=
  ∀ (dp un : Nat) (gd : Option (List Code)) (cn : Str) (cs : Scope) (a : Addr) (ccd : Value) (cl : List (Str × Addr)) (outer : List Env) (A₀ : Around) (base h₀ : Heap) (L : Addr) (m : Str → Option Value) (s : Shared) (Q E : Value → Shared → Prop),
    Below A₀ base outer h₀ → Fr h₀ L s.heap m → K.In h₀ → News h₀ L s.heap news → Top p loose mean mg mb h₀ → cs.kind = .function →
    pre → dp + k < recursionLimit → un + 8 * k < cLine → CbRet h₀ L m news s Q R →
      wpAny (model prog w) (ktrTop dp un gd cn cs L a ccd cl outer) (call (.ref f) vs) Q E s
end
section
open PySem PySem.W PyProof.Rows PySem.Calls
set_option maxRecDepth 100000
/-- enter0 for a def one of whose names is shared with an inner scope (a cell) -/
theorem enterC {prog : Program} {w : World} {A A₀ : Around} {s : Shared} {K : Frag} {L : Addr} {h₀ base : Heap} {m mg mb : Str → Option Value} {news : List (Addr × Obj)} {p : Program} {loose : List Str} {mean : ExcName → Option Value}
    {env : Env} {outer : List Env} {R : Result → Shared → Prop} {name qual : Str} {params : Arguments} {body : List Stmt} {scope : Scope} {dV kV doc pm cdv ct oc : Value} {an od : Option Addr} {osl : Array (Option Value)} {f : Addr} {args : Args} {binds : List (Str × Value)}
    (B : Below A₀ base outer h₀) (F : Fr h₀ L s.heap m) (X₀ : K.In h₀) (N : News h₀ L s.heap news) (T : Top p loose mean mg mb h₀) (hA : A.frames = some (env :: outer)) (hf : env.frame = some L) (hke : env.scope.kind = .function)
    (ho : K.lookup f = some ⟨oc, od, .func (fnOf name qual params body scope dV kV doc pm an cdv ct), osl⟩) (hcd : codeIn K cdv qual = true) (hroom : A.depth < recursionLimit)
    (hbind : BindsTo s (fnOf name qual params body scope dV kV doc pm an cdv ct) args binds) (hkind : (binds.all fun y => scope.names.lookup y.1 == some .local || scope.names.lookup y.1 == some .cell) = true)
    (hnd : ((cellsFrom 0 scope.names []).map (·.1)).Nodup)
    (h : ∀ g L' h₁ tk cells, (∀ a o, s.heap.get? a = some o → g.get? a = some o) → (∀ hh, (∀ a o, g.get? a = some o → hh.get? a = some o) → News h₀ L hh news) → Fr h₀ L g m →
      Fr g L' h₁ (bindL (envOfC qual scope L' f cdv).kindOf binds fun _ => none) → News g L' h₁ cells →
      CellsAre (bindC (envOfC qual scope L' f cdv).kindOf binds fun _ => none) (cellsFrom (L' + 1) scope.names []) cells → Below A base (env :: outer) g → K.In g → Top p loose mean mg mb g →
      wpAny (model prog w) (A.deeper (envOfC qual scope L' f cdv)) (execs body (envOfC qual scope L' f cdv))
        (fun fl s' => LeaveK h₀ L m g R (match fl with | .ret v => v | _ => .none) s')
        (fun e s' => wpAny (model prog w) (A.deeper (envOfC qual scope L' f cdv)) (leaving (envOfC qual scope L' f cdv) e) (fun _ s'' => R (.error e) s'') (fun e' s'' => R (.error e') s'') s')
        { s with heap := h₁, toks := tk })
    (hco : scope.isCoroutine = false) (hgen : scope.isGenerator = false) (hk : scope.kind = .function) : codeAny (model prog w) A (.call (.ref f) args) R s := by
  have gr := groundX (R := R) B F (News.nil (h₀ := h₀) (L := L) (h := s.heap)) hA hf hke
  have hat : s.heap.get? f = some ⟨oc, od, .func (fnOf name qual params body scope dV kV doc pm an cdv ct), osl⟩ := (X₀.keeps F.keep) _ _ ho
  have lim := T.nolimit.keeps F.keep
  refine codeAny_call_function hroom hat rfl hco hgen rfl (codeRec_of (X₀.keeps F.keep) hcd) (hbind _ _ _ _ ?_)
  refine wpAny_newFunctionEnv_cells hk (kindsX hkind _) fun env' he s' x => ?_
  subst he
  refine ⟨lim.keeps x.toInCall.keep, codeAny_func ?_⟩
  obtain ⟨h₁, tk, rfl, _⟩ := x.done
  have kp := x.toInCall.keep
  obtain ⟨cells, NC, Y⟩ := Cl.news (h₀ := s.heap) (Nat.le_refl _) fun n c hm => ⟨x.cell n c (lookup_of_mem_nodup (cellsFrom_names scope.names 0 (s.heap.objs.size + 1) [] [] rfl ▸ hnd) hm), x.above n c hm⟩
  exact wpAny_mono (h s.heap s.heap.objs.size h₁ tk cells (fun _ _ e => e) (fun hh k q hq => ⟨k _ _ (N q hq).1, (N q hq).2⟩) gr.1 ⟨x.toInCall.ns, fun b o e => kp b o e, Nat.le_refl _⟩ NC Y gr.2.1 (X₀.keeps gr.2.2.1) (T.keeps gr.2.2.1))
    (fun fl s' hl => gr.2.2.2 _ _ hl) fun _ _ y => y
end
section
open PySem PySem.W PyProof.Rows PySem.Calls
set_option maxRecDepth 100000
/-! a comprehension over a made tuple, turn by turn -/
def TupIn (ax : Addr) (its : Array Value) (news : List (Addr × Obj)) : Prop := False ∨ ∃ o, (ax, o) ∈ news ∧ o.cls = .type "tuple" ∧ ∃ n, o.data = .seq its n
def TupSrc (prog : Program) (w : World) (A : Around) (h₀ : Heap) (L : Addr) (m : Str → Option Value) (env : Env) (elt : Expr) (x : Str) (scope : Scope) (cl : List (Str × Addr)) (Fin : Shared → List Value → List (Addr × Obj) → Prop) (xv : Value) (s₁ : Shared) : Prop :=
  ∃ ax its news, xv = .ref ax ∧ A.handled = none ∧ Fr h₀ L s₁.heap m ∧ News h₀ L s₁.heap news ∧ TupIn ax its news ∧ its.size ≤ sizeLine ∧
    ∀ g, LCg.CompRest prog w A h₀ L m env elt x scope cl { s₁ with heap := g } (TupIn ax its) (fun i v => its[i]? = some v) (Fin { s₁ with heap := g }) its.size 0 [] news
theorem TupIn.tuple {h₀ h : Heap} {L ax : Addr} {its : Array Value} {news : List (Addr × Obj)} (x : TupIn ax its news) (N : News h₀ L h news) : h.IsTuple ax its := by
  rcases x with x | ⟨o, hm, r⟩
  · exact x.elim
  · exact ⟨o, (N _ hm).1, r⟩
section
variable {prog : Program} {w : World} {A : Around} {E : Value → Shared → Prop} {s : Shared} {h₀ : Heap} {L : Addr} {m : Str → Option Value} {env : Env}
theorem TupSrc.intro {elt : Expr} {x : Str} {scope : Scope} {cl : List (Str × Addr)} {Fin : Shared → List Value → List (Addr × Obj) → Prop} {ax : Addr} {its : Array Value} {k : Nat} {news : List (Addr × Obj)} {s₁ : Shared}
    (hh : A.handled = none) (F : Fr h₀ L s₁.heap m) (N : News h₀ L s₁.heap news) (hm : (ax, ({ cls := .type "tuple", data := .seq its k } : Obj)) ∈ news) (hsz : its.size ≤ sizeLine)
    (h : ∀ g, LCg.CompRest prog w A h₀ L m env elt x scope cl { s₁ with heap := g } (TupIn ax its) (fun i v => its[i]? = some v) (Fin { s₁ with heap := g }) its.size 0 [] news) :
    TupSrc prog w A h₀ L m env elt x scope cl Fin (.ref ax) s₁ := ⟨ax, its, news, rfl, hh, F, N, .inr ⟨_, hm, rfl, _, rfl⟩, hsz, h⟩
theorem tup_st {ax I : Addr} {its : Array Value} : ∀ i (h h' : Heap) (o : Obj) (nw : List (Addr × Obj)), (h.IsTupleIter I ax i ∧ h.IsTuple ax its) → h.get? I = some o → h'.get? I = some o → (∀ b o, h₀.get? b = some o → h'.get? b = some o) → News h₀ L h' nw → TupIn ax its nw → (h'.IsTupleIter I ax i ∧ h'.IsTuple ax its) :=
  fun i h h' o nw st e e' k N S => ⟨by obtain ⟨o', q, r⟩ := st.1; rw [e] at q; cases q; exact ⟨o, e', r⟩, S.tuple N⟩
theorem ListComp_Tup {elt iter : Expr} {x : Str} {px : Pos} {scope : Scope} {cl : List (Str × Addr)} {pos : Pos} {Q : Value → Shared → Prop} (F₀ : Fr h₀ L s.heap m)
    (hclos : closureFor scope env = pure cl) (hcell : ∀ y ∈ scope.names, y.2 ≠ .cell) (hkind : scope.kind = .function)
    (hnames : ∀ y ∈ scope.names, y.2 = .local → scope.names.lookup y.1 = some .local) (hx : scope.names.lookup x = some .local)
    (h : wpAny (model prog w) A (eval iter env) (TupSrc prog w A h₀ L m env elt x scope cl (fun s₂ => LCg.FinE h₀ L m s₂ Q)) E s)
    (hs : ∀ x, foldedSetIterable iter env x = pure x := by intro _; rfl) :
    wpAny (model prog w) A (eval (.ListComp elt [⟨.Name x px, iter, [], 0⟩] scope pos) env) Q E s := by
  rw [eval_ListComp]
  refine wpAny_comprehension_free (use := none) rfl hs hclos hkind hnames (wpAny_mono h (fun xv s₁ h₁ => ?_) fun _ _ e => e)
  obtain ⟨ax, its, news, rfl, hh, F, N, S, hsz, R⟩ := h₁
  have hl := S.tuple N
  have hlt : ax < s₁.heap.objs.size := by obtain ⟨_, e, _⟩ := hl; exact Heap.lt_size e
  have up : ∀ b o, s₁.heap.get? b = some o → (s₁.heap.push { cls := .type "tuple_iterator", data := .fields #[.ref ax, .int 0 0] }).get? b = some o := fun b o e => Heap.get?_push_of_some _ e
  refine wpAny_pyIter_tuple hl ?_
  refine LCg.block_U (Walks.tuple hh s₁.heap.objs.size ax (Nat.ne_of_lt hlt) its) hsz (fun i h st => by obtain ⟨o, e, _⟩ := st.1; exact ⟨o, e⟩) tup_st hcell hkind hx ⟨⟨_, Heap.get?_push_size _ rfl, rfl, rfl⟩, hl.at fun o e => up _ o e⟩ (fun b hb => ?_)
    (F.keeps up) (N.grown up) (Nat.ne_of_lt F.ns.lt) (next_is_new F) (fun p hp => Nat.ne_of_lt (Heap.lt_size (N p hp).1)) S (R _) ?_
  · show b < (s₁.heap.push _).objs.size
    rw [Heap.size_push]
    rcases List.mem_cons.mp hb with rfl | hb
    · exact Nat.lt_succ_self _
    · rw [List.mem_singleton.mp hb]; exact Nat.lt_succ_of_lt hlt
  · intro D C h tk m' ys news' F' N' o1 hn hC₀ hD₀ hCL hDL hCD offC fin
    refine ⟨m', hn, fun h'' hs'' => fin D h'' tk (F'.change hs'' hCL hC₀) (fun p hp => ?_) o1⟩
    refine ⟨hs''.extBut _ _ ?_ (N' p hp).1, (N' p hp).2⟩
    rcases List.mem_cons.mp hp with rfl | hp
    · exact Ne.symm hCD
    · exact offC p hp
end
end
section
open PySem PySem.W PyProof.Rows
set_option maxRecDepth 100000
set_option maxHeartbeats 8000000
open_top hd for PySem.Challenge.rw_fe0056_01
end
section
open PySem PySem.W PyProof.Rows
open PySem.Builtin.Int (intBits)
set_option maxRecDepth 100000
set_option maxHeartbeats 8000000
local macro_rules | `(tactic| bits_by_make) => `(tactic| first
  | assumption
  | ((with_reducible apply Mine.bits_and) <;> bits_by_make)
  | ((with_reducible apply Mine.bits_or) <;> bits_by_make)
  | ((with_reducible apply Mine.bits_xor) <;> bits_by_make))
local macro_rules | `(tactic| walk_at "mine enter") => `(tactic| (refine wpAny_call ?_; k_dflt (refine' enter0 ?k1 ?k2 ?k3 ?k4 ?k5 ?kA ?kF ?kK ?k6 ?k7 ?k8 ?k9 ?kB ?_ ?c2 ?c3 ?c4 ?c5; (case kA => exact rfl); (case kF => exact rfl); (case kK => assumption); (case k1 => k_asm); (case k2 => k_asm); (case k3 => k_asm); (case k4 => k_asm); (case k5 => k_asm); (case k6 => k_is); (case k7 => k_is); (case k8 => ktr_room); (case k9 => exact BindsTo.of_eq rfl); (case c5 => decide); (case kB => exact locs rfl); (case c2 => exact rfl); (case c3 => exact rfl); (case c4 => exact rfl); k_whole; intro g' L' h' sub' kp' FG' F' N' B' X' T'; (try dsimp only); (try k_lift B'); (try k_fold))))
local macro_rules | `(tactic| walk_at "mine end") => `(tactic| ((with_reducible rename CbRet _ _ _ _ _ _ _ => hret'); (with_reducible rename (∀ hh, (∀ a o, _ → _) → News _ _ hh _) => kp'); (refine cb_retI hret' ?e1 (by k_asm) (kp' _ (Fr.keep (by k_asm)))); (case e1 => cb_eq)))
abbrev Cm (w : World) := MC PySem.Challenge.rw_fe0056_01.row.prog w (Mine.hd.heap_39 w.params)
theorem rotl_claim {w : World} {p loose mean mg mb news} {x r : Int} {t u : Tok} : Cm w p loose mean mg mb 56 1 news (intBits x ≤ 100000 ∧ 0 ≤ r ∧ r ≤ 64) [.int x t, .int r u] (fun t => .int (rotl x r) t) := by
  intro dp un gd cn cs a ccd cl outer A₀ base h₀ L m s Q E B F X N T hk hpre hd hu hret
  k_with_none
  w_top off
  revert X; k_fill; intro X
  obtain ⟨hb, h0, h1⟩ := hpre
  walk_at "mine enter"
  k_steps
  all_goals walk_at "mine end"
theorem fmix_claim {w : World} {p loose mean mg mb news} {x : Int} {t : Tok} : Cm w p loose mean mg mb 63 1 news (intBits x ≤ 100000) [.int x t] (fun t => .int (fmix x) t) := by
  intro dp un gd cn cs a ccd cl outer A₀ base h₀ L m s Q E B F X N T hk hpre hd hu hret
  k_with_none
  w_top off
  walk_at "mine enter"
  k_steps
  all_goals walk_at "mine end"
theorem trunc_claim {w : World} {p loose mean mg mb news} {x : Int} {t : Tok} : Cm w p loose mean mg mb 70 1 news (intBits x ≤ 100000) [.int x t] (fun t => .int (trunc x) t) := by
  intro dp un gd cn cs a ccd cl outer A₀ base h₀ L m s Q E B F X N T hk hpre hd hu hret
  k_with_none
  w_top off
  walk_at "mine enter"
  k_steps
  k_with "tree" => (simp only [decide_eq_true_eq, decide_eq_false_iff_not, Bool.not_eq_true, Bool.and_eq_true, Int.not_le] at *; unfold trunc; split <;> first | rfl | omega)
  all_goals walk_at "mine end"
theorem turned_claim {w : World} {p loose mean mg mb news} {x r : Int} {t u : Tok} : Cm w p loose mean mg mb 319 1 news (0 ≤ x ∧ x < 18446744073709551616 ∧ 0 ≤ r ∧ r ≤ 64) [.int x t, .int r u] (fun t => .int (turned x r) t) := by
  intro dp un gd cn cs a ccd cl outer A₀ base h₀ L m s Q E B F X N T hk hpre hd hu hret
  k_with_none
  w_top off
  obtain ⟨hb, hb', h0, h1⟩ := hpre
  walk_at "mine enter"
  k_steps
  k_with "tree" => (simp only [Int.add_zero]; rfl)
  all_goals walk_at "mine end"
theorem undo_claim {w : World} {p loose mean mg mb news} {x : Int} {t : Tok} : Cm w p loose mean mg mb 326 1 news (0 ≤ x ∧ x < 18446744073709551616) [.int x t] (fun t => .int (undo x) t) := by
  intro dp un gd cn cs a ccd cl outer A₀ base h₀ L m s Q E B F X N T hk hpre hd hu hret
  k_with_none
  w_top off
  obtain ⟨hb, hb'⟩ := hpre
  walk_at "mine enter"
  k_steps
  all_goals walk_at "mine end"
end
section
open PySem PySem.W PyProof.Rows
open PySem.Builtin.Int (intBits)
set_option maxRecDepth 100000
set_option maxHeartbeats 8000000
local macro_rules | `(tactic| walk_at "mine pad 0") => `(tactic| skip)
theorem undo_bits (f : Int) : 0 ≤ undo f ∧ undo f < 18446744073709551616 := by
  unfold undo undo1
  exact ⟨Int.fmod_nonneg_of_pos _ (by decide), Int.fmod_lt_of_pos _ (by decide)⟩
theorem undo_bits' (f : Int) : intBits (undo f) ≤ 64 := by
  have := undo_bits f
  exact intBits_le_64 (by omega) (by omega)
local macro_rules | `(tactic| bits_by_make) => `(tactic| first
  | assumption
  | with_reducible exact Mine.undo_bits' _
  | ((with_reducible apply Mine.bits_and) <;> bits_by_make)
  | ((with_reducible apply Mine.bits_or) <;> bits_by_make)
  | ((with_reducible apply Mine.bits_xor) <;> bits_by_make))
local macro_rules | `(tactic| walk_at "mine enter") => `(tactic| (refine wpAny_call ?_; k_dflt (refine' enter0 ?k1 ?k2 ?k3 ?k4 ?k5 ?kA ?kF ?kK ?k6 ?k7 ?k8 ?k9 ?kB ?_ ?c2 ?c3 ?c4 ?c5; (case kA => exact rfl); (case kF => exact rfl); (case kK => assumption); (case k1 => k_asm); (case k2 => k_asm); (case k3 => k_asm); (case k4 => k_asm); (case k5 => k_asm); (case k6 => k_is); (case k7 => k_is); (case k8 => ktr_room); (case k9 => exact BindsTo.of_eq rfl); (case c5 => decide); (case kB => exact locs rfl); (case c2 => exact rfl); (case c3 => exact rfl); (case c4 => exact rfl); k_whole; intro g' L' h' sub' kp' FG' F' N' B' X' T'; (try dsimp only); (try k_lift B'); (try k_fold))))
local macro_rules | `(tactic| walk_at "mine end") => `(tactic| ((with_reducible rename CbRet _ _ _ _ _ _ _ => hret'); (with_reducible rename (∀ hh, (∀ a o, _ → _) → News _ _ hh _) => kp'); (refine cb_retI hret' ?e1 (by k_asm) (kp' _ (Fr.keep (by k_asm)))); (case e1 => cb_eq)))
theorem unmixed_claim {w : World} {p loose mean mg mb news} {x : Int} {t : Tok} : Cm w p loose mean mg mb 333 2 news (0 ≤ x ∧ x < 18446744073709551616) [.int x t] (fun t => .int (unmixed x) t) := by
  intro dp un gd cn cs a ccd cl outer A₀ base h₀ L m s Q E B F X N T hk hpre hd hu hret
  k_with_none
  w_top off
  revert X; k_fill; intro X
  obtain ⟨hb, hb'⟩ := hpre
  walk_at "mine enter"
  k_with "call ref" => (k_dflt (refine' undo_claim _ _ _ _ _ _ _ _ _ _ _ _ _ _ _ _ _ ?k1 ?k2 ?k3 ?k4 ?k5 ?k6 ?k7 ?k8 ?k9 ?_; (case k1 => k_asm); (case k2 => k_asm); (case k3 => k_asm); (case k4 => k_asm); (case k5 => k_asm); (case k6 => first | exact rfl | assumption); (case k7 => exact (by decide)); (case k8 => ktr_room); (case k9 => ktr_units); intro t9 h9 tk9 F9 N9; (try dsimp only); (try k_fold)))
  k_steps
  all_goals walk_at "mine end"
end
section
open PySem PySem.W PyProof.Rows PySem.Calls
open PySem.Builtin.Int (intBits)
set_option maxRecDepth 100000
set_option maxHeartbeats 1000000
/-- eight octets as a whole number with a sign -/
def sg (n : Nat) : Int := if n ≥ 2 ^ 63 then (n : Int) - 2 ^ 64 else n
def le (b : Array UInt8) (i : Nat) : Nat := Builtin.Memoryview.littleEndian (b.extract i (i + 8))
section
variable {prog : Program} {w : World} {M : Model} {A : Around} {E : Value → Shared → Prop} {s : Shared}
theorem kind_un : builtinKind "_struct.unpack" = none := by decide +kernel
theorem plain_un : plainId "_struct.unpack" = true := by decide +kernel
theorem entry_un : entryFor table "_struct.unpack" = some Builtin.«_struct.unpack» := entryFor_of_tree (by kernel_rfl)
theorem args_un (a b : Value) : argsOk "_struct.unpack" ⟨[a, b], []⟩ := by unfold argsOk; kernel_rfl
def f2 : Builtin.Struct.Format := { bigEndian := false, native := false, codes := [⟨'q', 1, 0, 8⟩, ⟨'q', 1, 8, 8⟩], size := 16, items := 2 }
theorem fmt2 (t : Tok) : Builtin.Struct.moduleFormat (.str (Str.ofString "<qq") t) = pure f2 := by
  first | kernel_rfl | rfl
theorem bl {c : Array UInt8} {u : Tok} : Builtin.Bytes.bytesLike "_struct.unpack" (.bytes c u) = pure c := by
  first | rfl | kernel_rfl
/-- the same, in the model's spelling -/
def sg' (n : Nat) : Int := if ('q'.isLower && decide (n ≥ 2 ^ (8 * 8 - 1))) = true then (n : Int) - 2 ^ (8 * 8) else n
theorem sg_eq (n : Nat) : sg' n = sg n := by
  unfold sg' sg
  have e : 'q'.isLower = true := by decide
  rw [e, Bool.true_and]
  simp only [decide_eq_true_eq]
def put (c : Array UInt8) (o : Nat) (out : Array Value) : Sem (ForInStep (Array Value)) := mkInt (sg' (Builtin.Struct.natOf false (c.extract (0 + o + 0 * 8) (0 + o + (0 + 1) * 8)))) >>= fun v => pure (.yield (out.push v))
def get (r : ForInStep (Array Value)) : Array Value := match r with | .done x => x | .yield x => x
theorem unp2 (c : Array UInt8) : Builtin.Struct.unpacked "_struct.unpack" f2 c 0 = (put c 0 #[] >>= fun r => match r with | .done x => newTuple x.toList | .yield x => put c 8 x >>= fun r => match r with | .done x => newTuple x.toList | .yield x => newTuple x.toList) := by
  unfold Builtin.Struct.unpacked
  simp only [f2, Std.Legacy.Range.forIn_eq_forIn_range', Std.Legacy.Range.size]
  kernel_rfl
theorem put_ (c : Array UInt8) (o : Nat) (out : Array Value) {Q : ForInStep (Array Value) → Shared → Prop} (h : Q (.yield (out.push (.int (sg (le c o)) s.toks))) { s with toks := s.toks + 1 }) : wpAny M A (put c o out) Q E s := by
  unfold put
  refine wpAny_bind (wpAny_mkInt (wpAny_pure ?_))
  rw [sg_eq]
  have e : Builtin.Struct.natOf false (c.extract (0 + o + 0 * 8) (0 + o + (0 + 1) * 8)) = le c o := by
    unfold le
    show Builtin.Memoryview.littleEndian (c.extract (0 + o + 0 * 8) (0 + o + (0 + 1) * 8)) = _
    simp only [Nat.zero_add, Nat.zero_mul, Nat.add_zero, Nat.one_mul]
  rw [e]
  exact h
theorem un2_body {c : Array UInt8} {t u : Tok} {P : Fin → Shared → Prop} (hc : c.size = 16)
    (h : P (.done (.ret (.ref s.heap.objs.size))) { s with heap := s.heap.push { cls := .type "tuple", data := .seq #[.int (sg (le c 0)) s.toks, .int (sg (le c 8)) (s.toks + 1)] }, toks := s.toks + 1 + 1 }) :
    wpAny M A (Builtin.«_struct.unpack» ⟨[.str (Str.ofString "<qq") t, .bytes c u], []⟩) P E s := by
  unfold Builtin.«_struct.unpack»
  refine wpAny_bind (wpAny_of_eq (a := ()) (by first | rfl | kernel_rfl) ?_)
  refine wpAny_bind (wpAny_of_eq (a := ()) (by first | rfl | kernel_rfl) ?_)
  refine wpAny_bind (wpAny_of_eq (a := f2) (fmt2 t) ?_)
  unfold Builtin.Struct.unpackExact
  refine wpAny_bind (wpAny_of_eq (a := c) bl ?_)
  refine wpAny_bind (wpAny_of_eq (a := f2) rfl ?_)
  rw [if_neg (by simp [hc, f2])]
  show wpAny M A (Builtin.Struct.unpacked "_struct.unpack" f2 c 0 >>= fun v => ret v) P E s
  rw [unp2]
  refine wpAny_bind (wpAny_bind (put_ _ _ _ ?_))
  refine wpAny_bind (put_ _ _ _ ?_)
  exact wpAny_newTuple (wpAny_pure h) (by show 2 ≤ sizeLine; rw [sizeLine_eq]; omega)
def f4 : Builtin.Struct.Format := { bigEndian := false, native := false, codes := [⟨'q', 1, 0, 8⟩, ⟨'q', 1, 8, 8⟩, ⟨'q', 1, 16, 8⟩, ⟨'q', 1, 24, 8⟩], size := 32, items := 4 }
theorem fmt4 (t : Tok) : Builtin.Struct.moduleFormat (.str (Str.ofString "<qqqq") t) = pure f4 := by
  first | kernel_rfl | rfl
theorem unp4 (c : Array UInt8) : Builtin.Struct.unpacked "_struct.unpack" f4 c 0 = (put c 0 #[] >>= fun r => match r with | .done x => newTuple x.toList | .yield x => put c 8 x >>= fun r => match r with | .done x => newTuple x.toList | .yield x => put c 16 x >>= fun r => match r with | .done x => newTuple x.toList | .yield x => put c 24 x >>= fun r => match r with | .done x => newTuple x.toList | .yield x => newTuple x.toList) := by
  unfold Builtin.Struct.unpacked
  simp only [f4, Std.Legacy.Range.forIn_eq_forIn_range', Std.Legacy.Range.size]
  kernel_rfl
theorem un4_body {c : Array UInt8} {t u : Tok} {P : Fin → Shared → Prop} (hc : c.size = 32)
    (h : P (.done (.ret (.ref s.heap.objs.size))) { s with heap := s.heap.push { cls := .type "tuple", data := .seq #[.int (sg (le c 0)) s.toks, .int (sg (le c 8)) (s.toks + 1), .int (sg (le c 16)) (s.toks + 1 + 1), .int (sg (le c 24)) (s.toks + 1 + 1 + 1)] }, toks := s.toks + 1 + 1 + 1 + 1 }) :
    wpAny M A (Builtin.«_struct.unpack» ⟨[.str (Str.ofString "<qqqq") t, .bytes c u], []⟩) P E s := by
  unfold Builtin.«_struct.unpack»
  refine wpAny_bind (wpAny_of_eq (a := ()) (by first | rfl | kernel_rfl) ?_)
  refine wpAny_bind (wpAny_of_eq (a := ()) (by first | rfl | kernel_rfl) ?_)
  refine wpAny_bind (wpAny_of_eq (a := f4) (fmt4 t) ?_)
  unfold Builtin.Struct.unpackExact
  refine wpAny_bind (wpAny_of_eq (a := c) bl ?_)
  refine wpAny_bind (wpAny_of_eq (a := f4) rfl ?_)
  rw [if_neg (by simp [hc, f4])]
  show wpAny M A (Builtin.Struct.unpacked "_struct.unpack" f4 c 0 >>= fun v => ret v) P E s
  rw [unp4]
  refine wpAny_bind (wpAny_bind (put_ _ _ _ ?_))
  refine wpAny_bind (put_ _ _ _ ?_)
  refine wpAny_bind (put_ _ _ _ ?_)
  refine wpAny_bind (put_ _ _ _ ?_)
  exact wpAny_newTuple (wpAny_pure h) (by show 4 ≤ sizeLine; rw [sizeLine_eq]; omega)
def f0 : Builtin.Struct.Format := { bigEndian := false, native := true, codes := [], size := 0, items := 0 }
theorem fmt0 (t : Tok) : Builtin.Struct.moduleFormat (.str (Str.ofString "") t) = pure f0 := by
  first | kernel_rfl | rfl
theorem unp0 (c : Array UInt8) : Builtin.Struct.unpacked "_struct.unpack" f0 c 0 = newTuple [] := by
  unfold Builtin.Struct.unpacked
  simp only [f0]
  first | rfl | kernel_rfl
theorem un0_body {c : Array UInt8} {t u : Tok} {P : Fin → Shared → Prop} (hc : c.size = 0) (h : P (.done (.ret (.ref s.heap.objs.size))) { s with heap := s.heap.push { cls := .type "tuple", data := .seq #[] } }) :
    wpAny M A (Builtin.«_struct.unpack» ⟨[.str (Str.ofString "") t, .bytes c u], []⟩) P E s := by
  unfold Builtin.«_struct.unpack»
  refine wpAny_bind (wpAny_of_eq (a := ()) (by first | rfl | kernel_rfl) ?_)
  refine wpAny_bind (wpAny_of_eq (a := ()) (by first | rfl | kernel_rfl) ?_)
  refine wpAny_bind (wpAny_of_eq (a := f0) (fmt0 t) ?_)
  unfold Builtin.Struct.unpackExact
  refine wpAny_bind (wpAny_of_eq (a := c) bl ?_)
  refine wpAny_bind (wpAny_of_eq (a := f0) rfl ?_)
  rw [if_neg (by simp [hc, f0])]
  show wpAny M A (Builtin.Struct.unpacked "_struct.unpack" f0 c 0 >>= fun v => ret v) P E s
  rw [unp0]
  exact wpAny_bind (wpAny_newTuple (wpAny_pure h) (by show 0 ≤ sizeLine; exact Nat.zero_le _))
theorem call_un2 {c : Array UInt8} {t u : Tok} {Q : Value → Shared → Prop} (hc : c.size = 16)
    (h : Q (.ref s.heap.objs.size) { s with heap := s.heap.push { cls := .type "tuple", data := .seq #[.int (sg (le c 0)) s.toks, .int (sg (le c 8)) (s.toks + 1)] }, toks := s.toks + 1 + 1 }) :
    wpAny (model prog w) A (call (.builtin "_struct.unpack") [.str (Str.ofString "<qq") t, .bytes c u]) Q E s :=
  call_function_entry kind_un plain_un entry_un (args_un _ _) (un2_body hc ⟨_, rfl, h⟩)
theorem call_un4 {c : Array UInt8} {t u : Tok} {Q : Value → Shared → Prop} (hc : c.size = 32)
    (h : Q (.ref s.heap.objs.size) { s with heap := s.heap.push { cls := .type "tuple", data := .seq #[.int (sg (le c 0)) s.toks, .int (sg (le c 8)) (s.toks + 1), .int (sg (le c 16)) (s.toks + 1 + 1), .int (sg (le c 24)) (s.toks + 1 + 1 + 1)] }, toks := s.toks + 1 + 1 + 1 + 1 }) :
    wpAny (model prog w) A (call (.builtin "_struct.unpack") [.str (Str.ofString "<qqqq") t, .bytes c u]) Q E s :=
  call_function_entry kind_un plain_un entry_un (args_un _ _) (un4_body hc ⟨_, rfl, h⟩)
theorem call_un0 {c : Array UInt8} {t u : Tok} {Q : Value → Shared → Prop} (hc : c.size = 0)
    (h : Q (.ref s.heap.objs.size) { s with heap := s.heap.push { cls := .type "tuple", data := .seq #[] } }) :
    wpAny (model prog w) A (call (.builtin "_struct.unpack") [.str (Str.ofString "") t, .bytes c u]) Q E s :=
  call_function_entry kind_un plain_un entry_un (args_un _ _) (un0_body hc ⟨_, rfl, h⟩)

/-- eight octets, the lowest first -/
def w8 (a0 a1 a2 a3 a4 a5 a6 a7 : Int) : Int := a0 + 256 * (a1 + 256 * (a2 + 256 * (a3 + 256 * (a4 + 256 * (a5 + 256 * (a6 + 256 * a7))))))
def sgI (x : Int) : Int := if x ≥ 2 ^ 63 then x - 2 ^ 64 else x
theorem sg_sgI (n : Nat) : sg n = sgI (n : Int) := by
  unfold sg sgI
  by_cases h : n ≥ 2 ^ 63
  · rw [if_pos h, if_pos (by omega)]
  · rw [if_neg h, if_neg (by omega)]
theorem le_w8 {c : Array UInt8} {i : Nat} {pre post : List Int} {a0 a1 a2 a3 a4 a5 a6 a7 : Int} (hk : KBw.bInts c = pre ++ a0 :: a1 :: a2 :: a3 :: a4 :: a5 :: a6 :: a7 :: post) (hi : pre.length = i) : ((le c i : Nat) : Int) = w8 a0 a1 a2 a3 a4 a5 a6 a7 := by
  unfold KBw.bInts at hk
  obtain ⟨l⟩ := c
  have hk : List.map (fun c : UInt8 => ((c.toNat : Nat) : Int)) l = pre ++ a0 :: a1 :: a2 :: a3 :: a4 :: a5 :: a6 :: a7 :: post := hk
  obtain ⟨p, q, rfl, hp, hq⟩ := List.map_eq_append_iff.mp hk
  obtain ⟨b0, q, rfl, h0, hq⟩ := List.map_eq_cons_iff.mp hq
  obtain ⟨b1, q, rfl, h1, hq⟩ := List.map_eq_cons_iff.mp hq
  obtain ⟨b2, q, rfl, h2, hq⟩ := List.map_eq_cons_iff.mp hq
  obtain ⟨b3, q, rfl, h3, hq⟩ := List.map_eq_cons_iff.mp hq
  obtain ⟨b4, q, rfl, h4, hq⟩ := List.map_eq_cons_iff.mp hq
  obtain ⟨b5, q, rfl, h5, hq⟩ := List.map_eq_cons_iff.mp hq
  obtain ⟨b6, q, rfl, h6, hq⟩ := List.map_eq_cons_iff.mp hq
  obtain ⟨b7, q, rfl, h7, hq⟩ := List.map_eq_cons_iff.mp hq
  have hl : p.length = i := by rw [← hi, ← hp, List.length_map]
  have e : (List.toArray (p ++ b0 :: b1 :: b2 :: b3 :: b4 :: b5 :: b6 :: b7 :: q)).extract i (i + 8) = #[b0, b1, b2, b3, b4, b5, b6, b7] := by
    rw [List.extract_toArray]
    congr 1
    rw [List.extract_eq_take_drop, ← hl, List.drop_left]
    have : p.length + 8 - p.length = 8 := by omega
    rw [this]
    rfl
  unfold le Builtin.Memoryview.littleEndian
  rw [e, ← h0, ← h1, ← h2, ← h3, ← h4, ← h5, ← h6, ← h7]
  unfold w8
  show ((((((((((0 * 256 + b7.toNat) * 256 + b6.toNat) * 256 + b5.toNat) * 256 + b4.toNat) * 256 + b3.toNat) * 256 + b2.toNat) * 256 + b1.toNat) * 256 + b0.toNat : Nat)) : Int) = _
  omega
theorem size_of_ints {c : Array UInt8} {ks : List Int} (hk : KBw.bInts c = ks) : c.size = ks.length := by rw [← hk, KBw.ints_length]
section
variable {h₀ : Heap} {L : Addr} {m : Str → Option Value} {news : List (Addr × Obj)}
theorem un2_K {f : Str} {c : Array UInt8} {t u : Tok} {ks : List Int} {a0 a1 a2 a3 a4 a5 a6 a7 a8 a9 a10 a11 a12 a13 a14 a15 : Int} {Q : Value → Shared → Prop} (F : Fr h₀ L s.heap m) (N : News h₀ L s.heap news) (hf : f = Str.ofString "<qq") (hk : KBw.bInts c = ks) (e : ks = [a0, a1, a2, a3, a4, a5, a6, a7, a8, a9, a10, a11, a12, a13, a14, a15])
    (h : ∀ D h' t0 t1 tk, Fr h₀ L h' m → News h₀ L h' ((D, ({ cls := .type "tuple", data := .seq [Value.int (sgI (w8 a0 a1 a2 a3 a4 a5 a6 a7)) t0, .int (sgI (w8 a8 a9 a10 a11 a12 a13 a14 a15)) t1].toArray } : Obj)) :: news) → (∀ p ∈ news, p.1 < D) → Q (.ref D) { s with heap := h', toks := tk }) :
    wpAny (model prog w) A (call (.builtin "_struct.unpack") [.str f t, .bytes c u]) Q E s := by
  subst hf e
  refine call_un2 (size_of_ints hk) ?_
  rw [sg_sgI, sg_sgI, le_w8 (i := 0) (pre := []) hk rfl, le_w8 (i := 8) (pre := [a0, a1, a2, a3, a4, a5, a6, a7]) hk rfl]
  exact h _ _ _ _ _ (F.push _) (News.push F N _) fun p hp => Heap.lt_size (N p hp).1
theorem un4_K {f : Str} {c : Array UInt8} {t u : Tok} {ks : List Int} {a0 a1 a2 a3 a4 a5 a6 a7 a8 a9 a10 a11 a12 a13 a14 a15 b0 b1 b2 b3 b4 b5 b6 b7 b8 b9 b10 b11 b12 b13 b14 b15 : Int} {Q : Value → Shared → Prop} (F : Fr h₀ L s.heap m) (N : News h₀ L s.heap news) (hf : f = Str.ofString "<qqqq") (hk : KBw.bInts c = ks) (e : ks = [a0, a1, a2, a3, a4, a5, a6, a7, a8, a9, a10, a11, a12, a13, a14, a15, b0, b1, b2, b3, b4, b5, b6, b7, b8, b9, b10, b11, b12, b13, b14, b15])
    (h : ∀ D h' t0 t1 t2 t3 tk, Fr h₀ L h' m → News h₀ L h' ((D, ({ cls := .type "tuple", data := .seq [Value.int (sgI (w8 a0 a1 a2 a3 a4 a5 a6 a7)) t0, .int (sgI (w8 a8 a9 a10 a11 a12 a13 a14 a15)) t1, .int (sgI (w8 b0 b1 b2 b3 b4 b5 b6 b7)) t2, .int (sgI (w8 b8 b9 b10 b11 b12 b13 b14 b15)) t3].toArray } : Obj)) :: news) → (∀ p ∈ news, p.1 < D) → Q (.ref D) { s with heap := h', toks := tk }) :
    wpAny (model prog w) A (call (.builtin "_struct.unpack") [.str f t, .bytes c u]) Q E s := by
  subst hf e
  refine call_un4 (size_of_ints hk) ?_
  rw [sg_sgI, sg_sgI, sg_sgI, sg_sgI, le_w8 (i := 0) (pre := []) hk rfl, le_w8 (i := 8) (pre := [a0, a1, a2, a3, a4, a5, a6, a7]) hk rfl, le_w8 (i := 16) (pre := [a0, a1, a2, a3, a4, a5, a6, a7, a8, a9, a10, a11, a12, a13, a14, a15]) hk rfl, le_w8 (i := 24) (pre := [a0, a1, a2, a3, a4, a5, a6, a7, a8, a9, a10, a11, a12, a13, a14, a15, b0, b1, b2, b3, b4, b5, b6, b7]) hk rfl]
  exact h _ _ _ _ _ _ _ (F.push _) (News.push F N _) fun p hp => Heap.lt_size (N p hp).1
theorem un0_K {f : Str} {c : Array UInt8} {t u : Tok} {ks : List Int} {Q : Value → Shared → Prop} (F : Fr h₀ L s.heap m) (N : News h₀ L s.heap news) (hf : f = Str.ofString "") (hk : KBw.bInts c = ks) (e : ks = [])
    (h : ∀ D h', Fr h₀ L h' m → News h₀ L h' ((D, ({ cls := .type "tuple", data := .seq ([] : List Value).toArray } : Obj)) :: news) → (∀ p ∈ news, p.1 < D) → Q (.ref D) { s with heap := h' }) :
    wpAny (model prog w) A (call (.builtin "_struct.unpack") [.str f t, .bytes c u]) Q E s := by
  subst hf e
  refine call_un0 (size_of_ints hk) ?_
  exact h _ _ (F.push _) (News.push F N _) fun p hp => Heap.lt_size (N p hp).1
end
end
/-! what the hash reckons -/
def bk1 (h1 h2 x : Int) : Int := (rotl (PySem.Builtin.bitXor h1 (rotl (x * -8663945395140668459) 31 * 5545529020109919103)) 27 + h2) * 5 + 1390208809
def bk2 (h2 n1 y : Int) : Int := (rotl (PySem.Builtin.bitXor h2 (rotl (y * 5545529020109919103) 33 * -8663945395140668459)) 31 + n1) * 5 + 944331445
def fin (h1 h2 l : Int) : Int :=
  trunc (fmix (PySem.Builtin.bitXor h1 l + PySem.Builtin.bitXor h2 l) + fmix (PySem.Builtin.bitXor h2 l + (PySem.Builtin.bitXor h1 l + PySem.Builtin.bitXor h2 l)))
def mur1 (x0 x1 : Int) : Int := fin (bk1 0 0 x0) (bk2 0 (bk1 0 0 x0) x1) 16
def mur2 (x0 x1 x2 x3 : Int) : Int := fin (bk1 (bk1 0 0 x0) (bk2 0 (bk1 0 0 x0) x1) x2) (bk2 (bk2 0 (bk1 0 0 x0) x1) (bk1 (bk1 0 0 x0) (bk2 0 (bk1 0 0 x0) x1) x2) x3) 32
theorem rotl_bits {x r : Int} {m : Nat} (hx : intBits x ≤ m) (h0 : 0 ≤ r) (h1 : r ≤ 64) : intBits (rotl x r) ≤ m + 200 := by
  unfold rotl
  have hp : ∀ n : Nat, n ≤ 64 → intBits ((2 : Int) ^ n) ≤ 130 := fun n hn => Nat.le_trans (intBits_pow_le (m := 2) (intBits_le_iff.mpr (by decide)) n) (by omega)
  have a := bits_mul hx (hp r.toNat (by omega))
  have b := bits_and (bits_fdiv (b := 2 ^ (64 - r).toNat) hx) (bits_sub (hp r.toNat (by omega)) (show intBits 1 ≤ 1 by decide))
  exact Nat.le_trans (bits_or a b) (by omega)
theorem sh33_bits {x : Int} {m : Nat} (hx : intBits x ≤ m) : intBits (sh33 x) ≤ m + 70 := by
  unfold sh33
  have b := bits_and (bits_fdiv (b := 2 ^ (33 : Int).toNat) hx) (show intBits 2147483647 ≤ 32 by decide)
  exact Nat.le_trans (bits_xor hx b) (by omega)
theorem fmix_bits {x : Int} {m : Nat} (hx : intBits x ≤ m) : intBits (fmix x) ≤ m + 400 := by
  unfold fmix
  have a := sh33_bits hx
  have b := sh33_bits (bits_mul a (show intBits 18397679294719823053 ≤ 64 by decide))
  have c := sh33_bits (bits_mul b (show intBits 14181476777654086739 ≤ 64 by decide))
  exact Nat.le_trans c (by omega)
end
section
open PySem PySem.W PyProof.Rows
open PySem.Builtin.Int (intBits)
set_option maxRecDepth 100000
set_option maxHeartbeats 8000000
/-- what a def that tells octets tells -/
abbrev MB (prog : Program) (w : World) (K : Frag) (p : Program) (loose : List Str) (mean : ExcName → Option Value) (mg mb : Str → Option Value) (f : Addr) (k : Nat) (news : List (Addr × Obj)) (pre : Heap → Prop) (vs : List Value) (P : List Int → Prop) : Prop :=
  ∀ (dp un : Nat) (gd : Option (List Code)) (cn : Str) (cs : Scope) (a : Addr) (ccd : Value) (cl : List (Str × Addr)) (outer : List Env) (A₀ : Around) (base h₀ : Heap) (L : Addr) (m : Str → Option Value) (s : Shared) (Q E : Value → Shared → Prop),
    Below A₀ base outer h₀ → Fr h₀ L s.heap m → K.In h₀ → News h₀ L s.heap news → Top p loose mean mg mb h₀ → cs.kind = .function →
    pre s.heap → dp + k < recursionLimit → un + 8 * k < cLine →
    (∀ (b : Array UInt8) (t : Tok) (h' : Heap) (tk' : Nat), P (KBw.bInts b) → Fr h₀ L h' m → News h₀ L h' news → Q (.bytes b t) { s with heap := h', toks := tk' }) →
      wpAny (model prog w) (ktrTop dp un gd cn cs L a ccd cl outer) (call (.ref f) vs) Q E s
theorem fmod_in (x : Int) : 0 ≤ x.fmod 18446744073709551616 ∧ x.fmod 18446744073709551616 < 18446744073709551616 := ⟨Int.fmod_nonneg_of_pos _ (by decide), Int.fmod_lt_of_pos _ (by decide)⟩
theorem fmod_bits (x : Int) : intBits (x.fmod 18446744073709551616) ≤ 64 := by
  have h := fmod_in x
  exact intBits_le_64 (by omega) (by omega)
theorem n16 : ((1 + 1 + 1 + 1 + 1 + 1 + 1 + 1 + 1 + 1 + 1 + 1 + 1 + 1 + 1 + 1 : Nat) : Int) = 16 := rfl
theorem n0 : ((0 : Nat) : Int) = 0 := rfl
theorem turned_bits {w p : Int} (h : 0 ≤ w ∧ w < 18446744073709551616) (h0 : 0 ≤ p) (_h1 : p ≤ 64) : intBits (turned w p) ≤ 500 := by
  unfold turned
  have hp : intBits ((2 : Int) ^ p.toNat) ≤ 130 := Nat.le_trans (intBits_pow_le (m := 2) (intBits_le_iff.mpr (by decide)) p.toNat) (by omega)
  have a := bits_mul (show intBits w ≤ 64 from intBits_le_64 (by omega) (by omega)) hp
  exact Nat.le_trans (bits_add (bits_fdiv a) (bits_fmod_by (by decide) (show intBits 18446744073709551616 ≤ 65 by decide))) (by omega)
section
variable {M : Model} {A : Around} {E : Value → Shared → Prop} {s : Shared} {Q : Unit → Shared → Prop} {env : Env} {n : Str} {e : Int} {t : Tok}
theorem gen_mod (h : ∀ x, x = e.fmod 18446744073709551616 → 0 ≤ x → x < 18446744073709551616 → intBits x ≤ 64 → wpAny M A (storeName env n (.int x t)) Q E s) : wpAny M A (storeName env n (.int (e.fmod 18446744073709551616) t)) Q E s :=
  h _ rfl (fmod_in e).1 (fmod_in e).2 (by have := fmod_in e; exact intBits_le_64 (by omega) (by omega))
theorem gen_bits {k : Nat} (hb : intBits e ≤ k) (h : ∀ x, x = e → intBits x ≤ k → wpAny M A (storeName env n (.int x t)) Q E s) : wpAny M A (storeName env n (.int e t)) Q E s := h _ rfl hb
end
def kBoth (w f : Int) : Int := unmixed ((w - f).fmod 18446744073709551616)
def kLast0 (w f : Int) : Int := (unmixed f - kBoth w f).fmod 18446744073709551616
def kAhead (w f n : Int) : Int := PySem.Builtin.bitXor ((kBoth w f - kLast0 w f).fmod 18446744073709551616) (n + 16)
def kLast (w f n : Int) : Int := PySem.Builtin.bitXor (kLast0 w f) (n + 16)
def kLow (w f n h1 h2 : Int) : Int := (turned ((PySem.Builtin.bitXor (turned (((kAhead w f n - 1390208809) * undo 5 - h2).fmod 18446744073709551616) 37) h1 * undo 5545529020109919103).fmod 18446744073709551616) 33 * undo 9782798678568883157).fmod 18446744073709551616
def kHigh (w f n h1 h2 : Int) : Int := (turned ((PySem.Builtin.bitXor (turned (((kLast w f n - 944331445) * undo 5 - kAhead w f n).fmod 18446744073709551616) 33) h2 * undo 9782798678568883157).fmod 18446744073709551616) 31 * undo 5545529020109919103).fmod 18446744073709551616
def kFirst (v : Int) : Int := (turned ((turned ((v * 9782798678568883157).fmod 18446744073709551616) 31 * 5545529020109919103).fmod 18446744073709551616) 27 * 5 + 1390208809).fmod 18446744073709551616
def kSecond (f1 v : Int) : Int := ((turned ((turned ((v * 5545529020109919103).fmod 18446744073709551616) 33 * 9782798678568883157).fmod 18446744073709551616) 31 + f1) * 5 + 944331445).fmod 18446744073709551616
theorem unmixed_bits {x : Int} {m : Nat} (_h : intBits x ≤ m) : intBits (unmixed x) ≤ 200 := by
  unfold unmixed xs33
  have a : ∀ z : Int, intBits (z.fmod 18446744073709551616) ≤ 64 := fun z => by have := fmod_in z; exact intBits_le_64 (by omega) (by omega)
  exact Nat.le_trans (bits_xor (a _) (bits_fdiv (a _))) (by omega)
theorem val8 {a0 a1 a2 a3 a4 a5 a6 a7 : Int} : KFB.value [a0, a1, a2, a3, a4, a5, a6, a7].reverse = w8 a0 a1 a2 a3 a4 a5 a6 a7 := by
  show (((((((((0 : Int) * 256 + a7) * 256 + a6) * 256 + a5) * 256 + a4) * 256 + a3) * 256 + a2) * 256 + a1) * 256 + a0) = _
  unfold w8
  omega
theorem w8_in {a0 a1 a2 a3 a4 a5 a6 a7 : Int} (h : KBa.In [a0, a1, a2, a3, a4, a5, a6, a7]) : 0 ≤ w8 a0 a1 a2 a3 a4 a5 a6 a7 ∧ w8 a0 a1 a2 a3 a4 a5 a6 a7 < 18446744073709551616 := by
  have h0 := h a0 (by simp)
  have h1 := h a1 (by simp)
  have h2 := h a2 (by simp)
  have h3 := h a3 (by simp)
  have h4 := h a4 (by simp)
  have h5 := h a5 (by simp)
  have h6 := h a6 (by simp)
  have h7 := h a7 (by simp)
  unfold w8
  omega
theorem w8_bits {a0 a1 a2 a3 a4 a5 a6 a7 : Int} (h : KBa.In [a0, a1, a2, a3, a4, a5, a6, a7]) : intBits (w8 a0 a1 a2 a3 a4 a5 a6 a7) ≤ 64 := by
  have h := w8_in h
  exact intBits_le_64 (by omega) (by omega)
theorem in_left {l r : List Int} (h : KBa.In (l ++ r)) : KBa.In l := fun v hv => h v (List.mem_append_left _ hv)
theorem in_right {l r : List Int} (h : KBa.In (l ++ r)) : KBa.In r := fun v hv => h v (List.mem_append_right _ hv)
def oct8 (z : Int) : List Int := [z % 256, z / 256 % 256, z / 256 / 256 % 256, z / 256 / 256 / 256 % 256, z / 256 / 256 / 256 / 256 % 256, z / 256 / 256 / 256 / 256 / 256 % 256, z / 256 / 256 / 256 / 256 / 256 / 256 % 256, z / 256 / 256 / 256 / 256 / 256 / 256 / 256 % 256]
end
section
open PySem PySem.W PyProof.Rows
open PySem.Builtin.Int (intBits)
set_option maxRecDepth 100000
set_option maxHeartbeats 8000000
local macro_rules | `(tactic| bits_by_make) => `(tactic| first
  | with_reducible assumption
  | ((with_reducible apply Mine.rotl_bits) <;> first | decide | bits_by_make)
  | ((with_reducible apply Mine.fmix_bits); bits_by_make)
  | ((with_reducible apply Mine.bits_and) <;> bits_by_make)
  | ((with_reducible apply Mine.bits_or) <;> bits_by_make)
  | ((with_reducible apply Mine.bits_xor) <;> bits_by_make))
local macro_rules | `(tactic| k_room) => `(tactic| ktr_room)
local macro_rules | `(tactic| k_units) => `(tactic| ktr_units)
local macro_rules | `(tactic| walk_at "mine enter") => `(tactic| (refine wpAny_call ?_; k_dflt (refine' enter0 ?k1 ?k2 ?k3 ?k4 ?k5 ?kA ?kF ?kK ?k6 ?k7 ?k8 ?k9 ?kB ?_ ?c2 ?c3 ?c4 ?c5; (case kA => exact rfl); (case kF => exact rfl); (case kK => assumption); (case k1 => k_asm); (case k2 => k_asm); (case k3 => k_asm); (case k4 => k_asm); (case k5 => k_asm); (case k6 => k_is); (case k7 => k_is); (case k8 => ktr_room); (case k9 => exact BindsTo.of_eq rfl); (case c5 => decide); (case kB => exact locs rfl); (case c2 => exact rfl); (case c3 => exact rfl); (case c4 => exact rfl); k_whole; intro g' L' h' sub' kp' FG' F' N' B' X' T'; (try dsimp only); (try k_lift B'); (try k_fold))))
local macro_rules | `(tactic| walk_at "mine end") => `(tactic| ((with_reducible rename CbRet _ _ _ _ _ _ _ => hret'); (with_reducible rename (∀ hh, (∀ a o, _ → _) → News _ _ hh _) => kp'); (refine cb_retI hret' ?e1 (by k_asm) (kp' _ (Fr.keep (by k_asm)))); (case e1 => cb_eq)))
/-! a call by what is known of it: the premises that every claim of this file has -/
local macro_rules | `(tactic| walk_at "mine call") => `(tactic| ((case k1 => k_asm); (case k2 => k_asm); (case k3 => k_asm); (case k4 => k_asm); (case k5 => k_asm); (case k6 => first | exact rfl | assumption); (case k8 => ktr_room); (case k9 => ktr_units); intro t9 h9 tk9 F9 N9; (try dsimp only); (try k_fold)))
local macro_rules | `(tactic| walk_at "mine pad 0") => `(tactic| skip)
theorem len16 {a0 a1 a2 a3 a4 a5 a6 a7 a8 a9 a10 a11 a12 a13 a14 a15 : Int} : ((List.length [a0, a1, a2, a3, a4, a5, a6, a7, a8, a9, a10, a11, a12, a13, a14, a15] : Nat) : Int) = 16 := rfl
theorem fd16 : Int.fdiv 16 16 = 1 := by decide
theorem fm16 : Int.fmod 16 16 = 0 := by decide
theorem mur16 {w : World} {p loose mean mg mb news} {b : Array UInt8} {t : Tok} {x0 x1 : Int} {a0 a1 a2 a3 a4 a5 a6 a7 a8 a9 a10 a11 a12 a13 a14 a15 : Int} : MC PySem.Challenge.rw_fe0056_01.row.prog w (Mine.hd.heap_39 w.params) p loose mean mg mb 77 4 news (KBw.bInts b = [a0, a1, a2, a3, a4, a5, a6, a7, a8, a9, a10, a11, a12, a13, a14, a15] ∧ sgI (w8 a0 a1 a2 a3 a4 a5 a6 a7) = x0 ∧ sgI (w8 a8 a9 a10 a11 a12 a13 a14 a15) = x1 ∧ intBits x0 ≤ 64 ∧ intBits x1 ≤ 64) [.bytes b t] (fun t => .int (mur1 x0 x1) t) := by
  intro dp un gd cn cs a ccd cl outer A₀ base h₀ L m s Q E B F X N T hk hpre hd hu hret
  k_with_none
  w_top off
  revert X; k_fill; intro X
  obtain ⟨hb, e0, e1, z0, z1⟩ := hpre
  walk_at "mine enter"
  k_with "storeName" => (simp only [len16, fd16, fm16])
  k_with "call builtin:_struct.unpack" => (first
    | (k_dflt (refine' un2_K ?F ?N ?f ?k ?e ?_; (case F => k_asm); (case N => k_asm); (case f => kernel_rfl); (case k => assumption); (case e => exact rfl)); intro D' h' t0' t1' tk' F' N' l1; (try rw [e0, e1] at N'); (try k_lt l1); (try k_sweep))
    | (k_dflt (refine' un0_K ?F ?N ?f ?k ?e ?_; (case F => k_asm); (case N => k_asm); (case f => kernel_rfl); (case k => assumption); (case e => exact rfl)); intro D' h' F' N' l1; (try k_lt l1); (try k_sweep)))
  k_with "call ref" => (k_dflt (refine' rotl_claim _ _ _ _ _ _ _ _ _ _ _ _ _ _ _ _ _ ?k1 ?k2 ?k3 ?k4 ?k5 ?k6 ?k7 ?k8 ?k9 ?_; (case k7 => refine ⟨?_, by decide, by decide⟩; (with_reducible apply Nat.le_trans); (focus bits_by_make); decide); walk_at "mine call"))
  k_with "call ref" => (k_dflt (refine' fmix_claim _ _ _ _ _ _ _ _ _ _ _ _ _ _ _ _ _ ?k1 ?k2 ?k3 ?k4 ?k5 ?k6 ?k7 ?k8 ?k9 ?_; (case k7 => (with_reducible apply Nat.le_trans); (focus bits_by_make); decide); walk_at "mine call"))
  k_with "call ref" => (k_dflt (refine' trunc_claim _ _ _ _ _ _ _ _ _ _ _ _ _ _ _ _ _ ?k1 ?k2 ?k3 ?k4 ?k5 ?k6 ?k7 ?k8 ?k9 ?_; (case k7 => (with_reducible apply Nat.le_trans); (focus bits_by_make); decide); walk_at "mine call"))
  k_steps
  all_goals walk_at "mine end"
end
section
open PySem PySem.W PyProof.Rows
open PySem.Builtin.Int (intBits)
set_option maxRecDepth 100000
set_option maxHeartbeats 8000000
local macro_rules | `(tactic| bits_by_make) => `(tactic| first
  | with_reducible assumption
  | ((with_reducible apply Mine.rotl_bits) <;> first | decide | bits_by_make)
  | ((with_reducible apply Mine.fmix_bits); bits_by_make)
  | ((with_reducible apply Mine.bits_and) <;> bits_by_make)
  | ((with_reducible apply Mine.bits_or) <;> bits_by_make)
  | ((with_reducible apply Mine.bits_xor) <;> bits_by_make))
local macro_rules | `(tactic| k_room) => `(tactic| ktr_room)
local macro_rules | `(tactic| k_units) => `(tactic| ktr_units)
local macro_rules | `(tactic| walk_at "mine enter") => `(tactic| (refine wpAny_call ?_; k_dflt (refine' enter0 ?k1 ?k2 ?k3 ?k4 ?k5 ?kA ?kF ?kK ?k6 ?k7 ?k8 ?k9 ?kB ?_ ?c2 ?c3 ?c4 ?c5; (case kA => exact rfl); (case kF => exact rfl); (case kK => assumption); (case k1 => k_asm); (case k2 => k_asm); (case k3 => k_asm); (case k4 => k_asm); (case k5 => k_asm); (case k6 => k_is); (case k7 => k_is); (case k8 => ktr_room); (case k9 => exact BindsTo.of_eq rfl); (case c5 => decide); (case kB => exact locs rfl); (case c2 => exact rfl); (case c3 => exact rfl); (case c4 => exact rfl); k_whole; intro g' L' h' sub' kp' FG' F' N' B' X' T'; (try dsimp only); (try k_lift B'); (try k_fold))))
local macro_rules | `(tactic| walk_at "mine end") => `(tactic| ((with_reducible rename CbRet _ _ _ _ _ _ _ => hret'); (with_reducible rename (∀ hh, (∀ a o, _ → _) → News _ _ hh _) => kp'); (refine cb_retI hret' ?e1 (by k_asm) (kp' _ (Fr.keep (by k_asm)))); (case e1 => cb_eq)))
/-! a call by what is known of it: the premises that every claim of this file has -/
local macro_rules | `(tactic| walk_at "mine call") => `(tactic| ((case k1 => k_asm); (case k2 => k_asm); (case k3 => k_asm); (case k4 => k_asm); (case k5 => k_asm); (case k6 => first | exact rfl | assumption); (case k8 => ktr_room); (case k9 => ktr_units); intro t9 h9 tk9 F9 N9; (try dsimp only); (try k_fold)))
local macro_rules | `(tactic| walk_at "mine pad 0") => `(tactic| skip)
local macro_rules | `(tactic| walk_at "mine pad 1") => `(tactic| skip)
theorem len32 {a0 a1 a2 a3 a4 a5 a6 a7 a8 a9 a10 a11 a12 a13 a14 a15 b0 b1 b2 b3 b4 b5 b6 b7 b8 b9 b10 b11 b12 b13 b14 b15 : Int} : ((List.length [a0, a1, a2, a3, a4, a5, a6, a7, a8, a9, a10, a11, a12, a13, a14, a15, b0, b1, b2, b3, b4, b5, b6, b7, b8, b9, b10, b11, b12, b13, b14, b15] : Nat) : Int) = 32 := rfl
theorem fd32 : Int.fdiv 32 16 = 2 := by decide
theorem fm32 : Int.fmod 32 16 = 0 := by decide
theorem mur32 {w : World} {p loose mean mg mb news} {b : Array UInt8} {t : Tok} {x0 x1 x2 x3 : Int} {a0 a1 a2 a3 a4 a5 a6 a7 a8 a9 a10 a11 a12 a13 a14 a15 b0 b1 b2 b3 b4 b5 b6 b7 b8 b9 b10 b11 b12 b13 b14 b15 : Int} : MC PySem.Challenge.rw_fe0056_01.row.prog w (Mine.hd.heap_39 w.params) p loose mean mg mb 77 4 news (KBw.bInts b = [a0, a1, a2, a3, a4, a5, a6, a7, a8, a9, a10, a11, a12, a13, a14, a15, b0, b1, b2, b3, b4, b5, b6, b7, b8, b9, b10, b11, b12, b13, b14, b15] ∧ sgI (w8 a0 a1 a2 a3 a4 a5 a6 a7) = x0 ∧ sgI (w8 a8 a9 a10 a11 a12 a13 a14 a15) = x1 ∧ sgI (w8 b0 b1 b2 b3 b4 b5 b6 b7) = x2 ∧ sgI (w8 b8 b9 b10 b11 b12 b13 b14 b15) = x3 ∧ intBits x0 ≤ 64 ∧ intBits x1 ≤ 64 ∧ intBits x2 ≤ 64 ∧ intBits x3 ≤ 64) [.bytes b t] (fun t => .int (mur2 x0 x1 x2 x3) t) := by
  intro dp un gd cn cs a ccd cl outer A₀ base h₀ L m s Q E B F X N T hk hpre hd hu hret
  k_with_none
  w_top off
  revert X; k_fill; intro X
  obtain ⟨hb, e0, e1, e2, e3, z0, z1, z2, z3⟩ := hpre
  walk_at "mine enter"
  k_with "storeName" => (simp only [len32, fd32, fm32])
  k_with "call builtin:_struct.unpack" => (first
    | (k_dflt (refine' un4_K ?F ?N ?f ?k ?e ?_; (case F => k_asm); (case N => k_asm); (case f => kernel_rfl); (case k => assumption); (case e => exact rfl)); intro D' h' t0' t1' t2' t3' tk' F' N' l1; (try rw [e0, e1, e2, e3] at N'); (try k_lt l1); (try k_sweep))
    | (k_dflt (refine' un0_K ?F ?N ?f ?k ?e ?_; (case F => k_asm); (case N => k_asm); (case f => kernel_rfl); (case k => assumption); (case e => exact rfl)); intro D' h' F' N' l1; (try k_lt l1); (try k_sweep)))
  k_with "call ref" => (k_dflt (refine' rotl_claim _ _ _ _ _ _ _ _ _ _ _ _ _ _ _ _ _ ?k1 ?k2 ?k3 ?k4 ?k5 ?k6 ?k7 ?k8 ?k9 ?_; (case k7 => refine ⟨?_, by decide, by decide⟩; (with_reducible apply Nat.le_trans); (focus bits_by_make); decide); walk_at "mine call"))
  k_with "call ref" => (k_dflt (refine' fmix_claim _ _ _ _ _ _ _ _ _ _ _ _ _ _ _ _ _ ?k1 ?k2 ?k3 ?k4 ?k5 ?k6 ?k7 ?k8 ?k9 ?_; (case k7 => (with_reducible apply Nat.le_trans); (focus bits_by_make); decide); walk_at "mine call"))
  k_with "call ref" => (k_dflt (refine' trunc_claim _ _ _ _ _ _ _ _ _ _ _ _ _ _ _ _ _ ?k1 ?k2 ?k3 ?k4 ?k5 ?k6 ?k7 ?k8 ?k9 ?_; (case k7 => (with_reducible apply Nat.le_trans); (focus bits_by_make); decide); walk_at "mine call"))
  k_steps
  all_goals walk_at "mine end"
end
section
open PySem PySem.W PyProof.Rows
open PySem.Builtin.Int (intBits)
set_option maxRecDepth 100000
set_option maxHeartbeats 8000000
local macro_rules | `(tactic| bits_by_make) => `(tactic| first
  | with_reducible assumption
  | with_reducible exact Mine.undo_bits' _
  | with_reducible exact Mine.fmod_bits _
  | ((with_reducible apply Mine.turned_bits) <;> first | exact Mine.fmod_in _ | decide)
  | ((with_reducible apply Mine.unmixed_bits); bits_by_make)
  | ((with_reducible apply Mine.bits_and) <;> bits_by_make)
  | ((with_reducible apply Mine.bits_or) <;> bits_by_make)
  | ((with_reducible apply Mine.bits_xor) <;> bits_by_make))
local macro_rules | `(tactic| k_room) => `(tactic| ktr_room)
local macro_rules | `(tactic| k_units) => `(tactic| ktr_units)
local macro_rules | `(tactic| walk_at "mine enter") => `(tactic| (refine wpAny_call ?_; k_dflt (refine' enterC ?k1 ?k2 ?k3 ?k4 ?k5 ?kA ?kF ?kK ?k6 ?k7 ?k8 ?k9 ?kB ?kD ?_ ?c2 ?c3 ?c4; (case kA => exact rfl); (case kF => exact rfl); (case kK => assumption); (case k1 => k_asm); (case k2 => k_asm); (case k3 => k_asm); (case k4 => k_asm); (case k5 => k_asm); (case k6 => k_is); (case k7 => k_is); (case k8 => ktr_room); (case k9 => exact BindsTo.of_eq rfl); (case kB => exact rfl); (case kD => decide +kernel); (case c2 => exact rfl); (case c3 => exact rfl); (case c4 => exact rfl); k_whole; intro g' L' h' tk' cells' sub' kp' FG' F' N' Y' B' X' T'; k_cells Y'; (try simp only [List.cons_append, List.nil_append] at N'); (try dsimp only); (try k_lift B'); (try k_fold))))
local macro_rules | `(tactic| walk_at "mine call") => `(tactic| ((case k1 => k_asm); (case k2 => k_asm); (case k3 => k_asm); (case k4 => k_asm); (case k5 => k_asm); (case k6 => first | exact rfl | assumption); (case k8 => ktr_room); (case k9 => ktr_units); intro t9 h9 tk9 F9 N9; (try dsimp only); (try k_fold)))
local macro_rules | `(tactic| walk_at "mine store") => `(tactic| (k_dflt (refine' storeX_L ?F ?N ?_ ?a ?b; (case F => k_asm); (case N => k_asm); (case a => rfl); (case b => rfl); k_whole; intro h' F' N'; (try k_sweep))))
local macro_rules | `(tactic| walk_at "mine pad 0") => `(tactic| skip)
local macro_rules | `(tactic| walk_at "mine pad 1") => `(tactic| skip)
local macro_rules | `(tactic| walk_at "mine pad 2") => `(tactic| skip)
theorem key0 {w : World} {p loose mean mg mb news} {l : Addr} {x y : Int} {t u : Tok} : MB PySem.Challenge.rw_fe0056_01.row.prog w (Mine.hd.heap_39 w.params) p loose mean mg mb 338 4 news (fun h => h.IsList l ([] : List Value).toArray ∧ intBits x ≤ 64 ∧ 0 ≤ y ∧ y < 18446744073709551616) [.ref l, .int x t, .int y u] (fun ks => ∃ low high, low = kLow x y 0 0 0 ∧ high = kHigh x y 0 0 0 ∧ ks = [] ++ oct8 low ++ oct8 high) := by
  intro dp un gd cn cs a ccd cl outer A₀ base h₀ L m s Q E B F X N T hk hpre hd hu hret
  k_with_none
  w_top off
  revert X; k_fill; intro X
  obtain ⟨hl, hx, hy0, hy1⟩ := hpre
  walk_at "mine enter"
  have hl' := stays_list (by assumption) hl
  have z2 : intBits y ≤ 64 := intBits_le_64 (by omega) (by omega)
  k_with "storeName" => (first
    | simp only [n0]
    | ((with_reducible refine gen_mod ?_); intro x9 e9 l9 u9 b9; walk_at "mine store")
    | ((with_reducible refine' gen_bits ?hb ?_); (case hb => bits_by_make); intro x9 e9 b9; walk_at "mine store"))
  have hi' : IntsAre ([] : List Value) [] := .nil
  k_with "call type:bytes" => (k_dflt (refine' KBa.make_K ?kbaF ?kbaN ?kbah ?kbal ?kbai ?kbar ?kban ?_; (case kbaF => k_asm); (case kbaN => k_asm); (case kbah => rfl); (case kbal => kba_isList); (case kbai => exact hi'); (case kbar => exact fun _ hx => nomatch hx); (case kban => exact (by decide))); intro _ _ _ F' N' kbaIn)
  k_with "call ref" => (k_dflt (refine' turned_claim _ _ _ _ _ _ _ _ _ _ _ _ _ _ _ _ _ ?k1 ?k2 ?k3 ?k4 ?k5 ?k6 ?k7 ?k8 ?k9 ?_; (case k7 => exact ⟨(fmod_in _).1, (fmod_in _).2, by decide, by decide⟩); walk_at "mine call"))
  k_with "call ref" => (k_dflt (refine' undo_claim _ _ _ _ _ _ _ _ _ _ _ _ _ _ _ _ _ ?k1 ?k2 ?k3 ?k4 ?k5 ?k6 ?k7 ?k8 ?k9 ?_; (case k7 => decide); walk_at "mine call"))
  k_with "call ref" => (k_dflt (refine' unmixed_claim _ _ _ _ _ _ _ _ _ _ _ _ _ _ _ _ _ ?k1 ?k2 ?k3 ?k4 ?k5 ?k6 ?k7 ?k8 ?k9 ?_; (case k7 => first | exact fmod_in _ | exact ⟨by assumption, by assumption⟩); walk_at "mine call"))
  k_steps
  all_goals ((with_reducible rename (∀ hh, (∀ a o, _ → _) → News _ _ hh _) => kp'); refine hret _ _ _ _ ⟨_, _, ?e1, ?e2, by assumption⟩ (by k_asm) (kp' _ (Fr.keep (by k_asm))))
  case e1 => (subst_vars; rfl)
  case e2 => (subst_vars; rfl)
end
section
open PySem PySem.W PyProof.Rows
open PySem.Builtin.Int (intBits)
set_option maxRecDepth 100000
set_option maxHeartbeats 8000000
local macro_rules | `(tactic| bits_by_make) => `(tactic| first
  | with_reducible assumption
  | with_reducible exact Mine.undo_bits' _
  | with_reducible exact Mine.fmod_bits _
  | with_reducible exact Mine.w8_bits (by assumption)
  | ((with_reducible apply Mine.turned_bits) <;> first | exact Mine.fmod_in _ | decide)
  | ((with_reducible apply Mine.unmixed_bits); bits_by_make)
  | ((with_reducible apply Mine.bits_and) <;> bits_by_make)
  | ((with_reducible apply Mine.bits_or) <;> bits_by_make)
  | ((with_reducible apply Mine.bits_xor) <;> bits_by_make))
local macro_rules | `(tactic| k_room) => `(tactic| ktr_room)
local macro_rules | `(tactic| k_units) => `(tactic| ktr_units)
local macro_rules | `(tactic| walk_at "mine enter") => `(tactic| (refine wpAny_call ?_; k_dflt (refine' enterC ?k1 ?k2 ?k3 ?k4 ?k5 ?kA ?kF ?kK ?k6 ?k7 ?k8 ?k9 ?kB ?kD ?_ ?c2 ?c3 ?c4; (case kA => exact rfl); (case kF => exact rfl); (case kK => assumption); (case k1 => k_asm); (case k2 => k_asm); (case k3 => k_asm); (case k4 => k_asm); (case k5 => k_asm); (case k6 => k_is); (case k7 => k_is); (case k8 => ktr_room); (case k9 => exact BindsTo.of_eq rfl); (case kB => exact rfl); (case kD => decide +kernel); (case c2 => exact rfl); (case c3 => exact rfl); (case c4 => exact rfl); k_whole; intro g' L' h' tk' cells' sub' kp' FG' F' N' Y' B' X' T'; k_cells Y'; (try simp only [List.cons_append, List.nil_append] at N'); (try dsimp only); (try k_lift B'); (try k_fold))))
local macro_rules | `(tactic| walk_at "mine call") => `(tactic| ((case k1 => k_asm); (case k2 => k_asm); (case k3 => k_asm); (case k4 => k_asm); (case k5 => k_asm); (case k6 => first | exact rfl | assumption); (case k8 => ktr_room); (case k9 => ktr_units); intro t9 h9 tk9 F9 N9; (try dsimp only); (try k_fold)))
local macro_rules | `(tactic| walk_at "mine store") => `(tactic| (k_dflt (refine' storeX_L ?F ?N ?_ ?a ?b; (case F => k_asm); (case N => k_asm); (case a => rfl); (case b => rfl); k_whole; intro h' F' N'; (try k_sweep))))
local macro_rules | `(tactic| walk_at "call ref") => `(tactic| (k_here; (with_reducible show wpAny _ _ (call (Value.ref _) [Value.bytes _ _, Value.str _ _]) _ _ _); k_dflt (refine KFB.call_little (by k_asm) (by k_mem) (by kba_ints2) (by kfb_size) ?_); intro _ _; rw [val8]))
local macro_rules | `(tactic| walk_at "mine pad 0") => `(tactic| skip)
local macro_rules | `(tactic| walk_at "mine pad 1") => `(tactic| skip)
local macro_rules | `(tactic| walk_at "mine pad 2") => `(tactic| skip)
theorem key16 {w : World} {p loose mean mg mb news} {l : Addr} {x y : Int} {t u : Tok} {o0 o1 o2 o3 o4 o5 o6 o7 o8 o9 o10 o11 o12 o13 o14 o15 : Int} {t0 t1 t2 t3 t4 t5 t6 t7 t8 t9 t10 t11 t12 t13 t14 t15 : Tok} : MB PySem.Challenge.rw_fe0056_01.row.prog w (Mine.hd.heap_39 w.params) p loose mean mg mb 338 4 news (fun h => h.IsList l ([Value.int o0 t0, Value.int o1 t1, Value.int o2 t2, Value.int o3 t3, Value.int o4 t4, Value.int o5 t5, Value.int o6 t6, Value.int o7 t7, Value.int o8 t8, Value.int o9 t9, Value.int o10 t10, Value.int o11 t11, Value.int o12 t12, Value.int o13 t13, Value.int o14 t14, Value.int o15 t15] : List Value).toArray ∧ KBa.In [o0, o1, o2, o3, o4, o5, o6, o7, o8, o9, o10, o11, o12, o13, o14, o15] ∧ intBits x ≤ 64 ∧ 0 ≤ y ∧ y < 18446744073709551616) [.ref l, .int x t, .int y u] (fun ks => ∃ low high, low = kLow x y 16 (kFirst (w8 o0 o1 o2 o3 o4 o5 o6 o7)) (kSecond (kFirst (w8 o0 o1 o2 o3 o4 o5 o6 o7)) (w8 o8 o9 o10 o11 o12 o13 o14 o15)) ∧ high = kHigh x y 16 (kFirst (w8 o0 o1 o2 o3 o4 o5 o6 o7)) (kSecond (kFirst (w8 o0 o1 o2 o3 o4 o5 o6 o7)) (w8 o8 o9 o10 o11 o12 o13 o14 o15)) ∧ ks = [o0, o1, o2, o3, o4, o5, o6, o7, o8, o9, o10, o11, o12, o13, o14, o15] ++ oct8 low ++ oct8 high) := by
  intro dp un gd cn cs a ccd cl outer A₀ base h₀ L m s Q E B F X N T hk hpre hd hu hret
  k_with_none
  w_top off
  revert X; k_fill; intro X
  obtain ⟨hl, hin, hx, hy0, hy1⟩ := hpre
  walk_at "mine enter"
  have hl' := stays_list (by assumption) hl
  have z2 : intBits y ≤ 64 := intBits_le_64 (by omega) (by omega)
  k_with "storeName" => (first
    | simp only [n16]
    | ((with_reducible refine gen_mod ?_); intro x9 e9 l9 u9 b9; walk_at "mine store")
    | ((with_reducible refine' gen_bits ?hb ?_); (case hb => bits_by_make); intro x9 e9 b9; walk_at "mine store"))
  have hi' : IntsAre ([Value.int o0 t0, Value.int o1 t1, Value.int o2 t2, Value.int o3 t3, Value.int o4 t4, Value.int o5 t5, Value.int o6 t6, Value.int o7 t7, Value.int o8 t8, Value.int o9 t9, Value.int o10 t10, Value.int o11 t11, Value.int o12 t12, Value.int o13 t13, Value.int o14 t14, Value.int o15 t15] : List Value) [o0, o1, o2, o3, o4, o5, o6, o7, o8, o9, o10, o11, o12, o13, o14, o15] := .cons _ _ (.cons _ _ (.cons _ _ (.cons _ _ (.cons _ _ (.cons _ _ (.cons _ _ (.cons _ _ (.cons _ _ (.cons _ _ (.cons _ _ (.cons _ _ (.cons _ _ (.cons _ _ (.cons _ _ (.cons _ _ .nil)))))))))))))))
  k_with "call ref" => (k_dflt (refine' turned_claim _ _ _ _ _ _ _ _ _ _ _ _ _ _ _ _ _ ?k1 ?k2 ?k3 ?k4 ?k5 ?k6 ?k7 ?k8 ?k9 ?_; (case k7 => first | exact ⟨(fmod_in _).1, (fmod_in _).2, by decide, by decide⟩ | exact ⟨by assumption, by assumption, by decide, by decide⟩); walk_at "mine call"))
  k_with "call ref" => (k_dflt (refine' undo_claim _ _ _ _ _ _ _ _ _ _ _ _ _ _ _ _ _ ?k1 ?k2 ?k3 ?k4 ?k5 ?k6 ?k7 ?k8 ?k9 ?_; (case k7 => decide); walk_at "mine call"))
  k_with "call ref" => (k_dflt (refine' unmixed_claim _ _ _ _ _ _ _ _ _ _ _ _ _ _ _ _ _ ?k1 ?k2 ?k3 ?k4 ?k5 ?k6 ?k7 ?k8 ?k9 ?_; (case k7 => first | exact fmod_in _ | exact ⟨by assumption, by assumption⟩); walk_at "mine call"))
  have hin1 : KBa.In [o0, o1, o2, o3, o4, o5, o6, o7] := in_left (r := [o8, o9, o10, o11, o12, o13, o14, o15]) hin
  have hin2 : KBa.In [o8, o9, o10, o11, o12, o13, o14, o15] := in_right (l := [o0, o1, o2, o3, o4, o5, o6, o7]) hin
  k_with "call type:bytes" => (k_dflt (refine' KBa.make_K ?kbaF ?kbaN ?kbah ?kbal ?kbai ?kbar ?kban ?_; (case kbaF => k_asm); (case kbaN => k_asm); (case kbah => rfl); (case kbal => kba_isList); (case kbai => (repeat' first | exact IntsAre.nil | refine IntsAre.cons _ _ ?_)); (case kbar => assumption); (case kban => exact (by decide))); intro _ _ _ F' N' kbaIn)
  k_with "eval ListComp" => (k_dflt (refine ListComp_Tup (F₀ := by k_asm) (by with_unfolding_all rfl) (by decide) (by rfl) (by decide) (by rfl) ?_))
  k_with "TupSrc" => (k_dflt (refine TupSrc.intro (by rfl) (by k_asm) (by k_asm) (by k_mem) (by first | size_fits | exact Nat.le_of_ble_eq_true rfl) ?_; intro g'; lcg_lit))
  k_steps
  all_goals ((with_reducible rename (∀ hh, (∀ a o, _ → _) → News _ _ hh _) => kp'); refine hret _ _ _ _ ⟨_, _, ?e1, ?e2, by assumption⟩ (by k_asm) (kp' _ (Fr.keep (by k_asm))))
  case e1 => (subst_vars; rfl)
  case e2 => (subst_vars; rfl)
end
section
open PySem PySem.W PyProof.Rows
set_option maxRecDepth 100000
open PySem.Builtin.Int (intBits)
open PySem.Builtin (bitAnd bitOr bitXor bitNot)
/-! the plain law: what the hash and the key reckon, in 64 bits -/
theorem fmod_S (x : Int) : x.fmod 18446744073709551616 = x % 18446744073709551616 := Int.fmod_eq_emod_of_nonneg _ (by decide)
theorem B_eq {x y : Int} (h : x % 18446744073709551616 = y % 18446744073709551616) : B x = B y := by
  apply BitVec.eq_of_toNat_eq
  rw [BitVec.toNat_ofInt, BitVec.toNat_ofInt]
  show (x % 18446744073709551616).toNat = (y % 18446744073709551616).toNat
  rw [h]
theorem B_fmod (x : Int) : B (x.fmod 18446744073709551616) = B x := B_eq (by rw [fmod_S]; omega)
theorem B_sgI (x : Int) : B (sgI x) = B x := by
  refine B_eq ?_
  unfold sgI
  split <;> omega
theorem toNat_B (x : Int) : ((B x).toNat : Int) = x % 18446744073709551616 := by
  rw [BitVec.toNat_ofInt]
  show ((x % 18446744073709551616).toNat : Int) = _
  omega
def turnN (p q : Nat) (X : BitVec 64) : BitVec 64 := X <<< p ||| X >>> q
/-- the two halves of a turn share no bit -/
theorem turn_add {p q : Nat} (h : p + q = 64) (X : BitVec 64) : (X <<< p) + (X >>> q) = turnN p q X := by
  refine BitVec.add_eq_or_of_and_eq_zero _ _ ?_
  ext i hi
  simp
  intro h1
  intro h2
  exact BitVec.getLsbD_of_ge _ _ (by omega)
theorem turn_toNat {p q : Nat} (h : p + q = 64) (X : BitVec 64) : (turnN p q X).toNat = (X.toNat * 2 ^ p % 2 ^ 64 + X.toNat / 2 ^ q) % 2 ^ 64 := by
  rw [← turn_add h, BitVec.toNat_add, BitVec.toNat_shiftLeft, BitVec.toNat_ushiftRight, Nat.shiftLeft_eq, Nat.shiftRight_eq_div_pow]
theorem B_of_toNat {x : Int} {X : BitVec 64} (h : x % 18446744073709551616 = (X.toNat : Int)) : B x = X := by
  apply BitVec.eq_of_toNat_eq
  have := toNat_B x
  omega
theorem B_rotl27 (x : Int) : B (rotl x 27) = turnN 27 37 (B x) := by
  unfold rotl turnN
  rw [B_or]
  have e1 : B (x * 2 ^ (27 : Int).toNat) = B x <<< 27 := by
    refine B_of_toNat ?_
    have h := toNat_B x
    rw [BitVec.toNat_shiftLeft, Nat.shiftLeft_eq]
    show (x * 134217728) % 18446744073709551616 = (((B x).toNat * 134217728 % 18446744073709551616 : Nat) : Int)
    omega
  have e2 : B (bitAnd (x.fdiv (2 ^ (64 - 27 : Int).toNat)) (2 ^ (27 : Int).toNat - 1)) = B x >>> 37 := by
    refine B_of_toNat ?_
    have h := toNat_B x
    have e : bitAnd (x.fdiv (2 ^ (64 - 27 : Int).toNat)) (2 ^ (27 : Int).toNat - 1) = x.fdiv (2 ^ 37) % 2 ^ 27 := kbt_mask _ 27
    rw [e, BitVec.toNat_ushiftRight, Nat.shiftRight_eq_div_pow, Int.fdiv_eq_ediv_of_nonneg _ (by decide)]
    show (x / 137438953472 % 134217728) % 18446744073709551616 = (((B x).toNat / 137438953472 : Nat) : Int)
    omega
  rw [e1, e2]
theorem B_rotl31 (x : Int) : B (rotl x 31) = turnN 31 33 (B x) := by
  unfold rotl turnN
  rw [B_or]
  have e1 : B (x * 2 ^ (31 : Int).toNat) = B x <<< 31 := by
    refine B_of_toNat ?_
    have h := toNat_B x
    rw [BitVec.toNat_shiftLeft, Nat.shiftLeft_eq]
    show (x * 2147483648) % 18446744073709551616 = (((B x).toNat * 2147483648 % 18446744073709551616 : Nat) : Int)
    omega
  have e2 : B (bitAnd (x.fdiv (2 ^ (64 - 31 : Int).toNat)) (2 ^ (31 : Int).toNat - 1)) = B x >>> 33 := by
    refine B_of_toNat ?_
    have h := toNat_B x
    have e : bitAnd (x.fdiv (2 ^ (64 - 31 : Int).toNat)) (2 ^ (31 : Int).toNat - 1) = x.fdiv (2 ^ 33) % 2 ^ 31 := kbt_mask _ 31
    rw [e, BitVec.toNat_ushiftRight, Nat.shiftRight_eq_div_pow, Int.fdiv_eq_ediv_of_nonneg _ (by decide)]
    show (x / 8589934592 % 2147483648) % 18446744073709551616 = (((B x).toNat / 8589934592 : Nat) : Int)
    omega
  rw [e1, e2]
theorem B_rotl33 (x : Int) : B (rotl x 33) = turnN 33 31 (B x) := by
  unfold rotl turnN
  rw [B_or]
  have e1 : B (x * 2 ^ (33 : Int).toNat) = B x <<< 33 := by
    refine B_of_toNat ?_
    have h := toNat_B x
    rw [BitVec.toNat_shiftLeft, Nat.shiftLeft_eq]
    show (x * 8589934592) % 18446744073709551616 = (((B x).toNat * 8589934592 % 18446744073709551616 : Nat) : Int)
    omega
  have e2 : B (bitAnd (x.fdiv (2 ^ (64 - 33 : Int).toNat)) (2 ^ (33 : Int).toNat - 1)) = B x >>> 31 := by
    refine B_of_toNat ?_
    have h := toNat_B x
    have e : bitAnd (x.fdiv (2 ^ (64 - 33 : Int).toNat)) (2 ^ (33 : Int).toNat - 1) = x.fdiv (2 ^ 31) % 2 ^ 33 := kbt_mask _ 33
    rw [e, BitVec.toNat_ushiftRight, Nat.shiftRight_eq_div_pow, Int.fdiv_eq_ediv_of_nonneg _ (by decide)]
    show (x / 2147483648 % 8589934592) % 18446744073709551616 = (((B x).toNat / 2147483648 : Nat) : Int)
    omega
  rw [e1, e2]
theorem B_turned27 {w : Int} (h0 : 0 ≤ w) (h1 : w < 18446744073709551616) : B (turned w 27) = turnN 27 37 (B w) := by
  refine B_of_toNat ?_
  have h := toNat_B w
  rw [Int.emod_eq_of_lt h0 h1] at h
  rw [turn_toNat (by decide)]
  unfold turned
  rw [Int.fdiv_eq_ediv_of_nonneg _ (by decide), fmod_S]
  show (w * 134217728 / 18446744073709551616 + w * 134217728 % 18446744073709551616) % 18446744073709551616 = ((((B w).toNat * 134217728 % 18446744073709551616 + (B w).toNat / 137438953472) % 18446744073709551616 : Nat) : Int)
  generalize (B w).toNat = n at h
  subst h
  clear h0
  have hn : n < 18446744073709551616 := by omega
  have e1 : n * 134217728 / 18446744073709551616 = n / 137438953472 := by omega
  have e2 : ((n : Int) * 134217728 / 18446744073709551616) = ((n * 134217728 / 18446744073709551616 : Nat) : Int) := by omega
  have e3 : ((n : Int) * 134217728 % 18446744073709551616) = ((n * 134217728 % 18446744073709551616 : Nat) : Int) := by omega
  rw [e2, e3, e1]
  generalize n * 134217728 % 18446744073709551616 = u
  generalize n / 137438953472 = v
  omega
theorem B_turned31 {w : Int} (h0 : 0 ≤ w) (h1 : w < 18446744073709551616) : B (turned w 31) = turnN 31 33 (B w) := by
  refine B_of_toNat ?_
  have h := toNat_B w
  rw [Int.emod_eq_of_lt h0 h1] at h
  rw [turn_toNat (by decide)]
  unfold turned
  rw [Int.fdiv_eq_ediv_of_nonneg _ (by decide), fmod_S]
  show (w * 2147483648 / 18446744073709551616 + w * 2147483648 % 18446744073709551616) % 18446744073709551616 = ((((B w).toNat * 2147483648 % 18446744073709551616 + (B w).toNat / 8589934592) % 18446744073709551616 : Nat) : Int)
  generalize (B w).toNat = n at h
  subst h
  clear h0
  have hn : n < 18446744073709551616 := by omega
  have e1 : n * 2147483648 / 18446744073709551616 = n / 8589934592 := by omega
  have e2 : ((n : Int) * 2147483648 / 18446744073709551616) = ((n * 2147483648 / 18446744073709551616 : Nat) : Int) := by omega
  have e3 : ((n : Int) * 2147483648 % 18446744073709551616) = ((n * 2147483648 % 18446744073709551616 : Nat) : Int) := by omega
  rw [e2, e3, e1]
  generalize n * 2147483648 % 18446744073709551616 = u
  generalize n / 8589934592 = v
  omega
theorem B_turned33 {w : Int} (h0 : 0 ≤ w) (h1 : w < 18446744073709551616) : B (turned w 33) = turnN 33 31 (B w) := by
  refine B_of_toNat ?_
  have h := toNat_B w
  rw [Int.emod_eq_of_lt h0 h1] at h
  rw [turn_toNat (by decide)]
  unfold turned
  rw [Int.fdiv_eq_ediv_of_nonneg _ (by decide), fmod_S]
  show (w * 8589934592 / 18446744073709551616 + w * 8589934592 % 18446744073709551616) % 18446744073709551616 = ((((B w).toNat * 8589934592 % 18446744073709551616 + (B w).toNat / 2147483648) % 18446744073709551616 : Nat) : Int)
  generalize (B w).toNat = n at h
  subst h
  clear h0
  have hn : n < 18446744073709551616 := by omega
  have e1 : n * 8589934592 / 18446744073709551616 = n / 2147483648 := by omega
  have e2 : ((n : Int) * 8589934592 / 18446744073709551616) = ((n * 8589934592 / 18446744073709551616 : Nat) : Int) := by omega
  have e3 : ((n : Int) * 8589934592 % 18446744073709551616) = ((n * 8589934592 % 18446744073709551616 : Nat) : Int) := by omega
  rw [e2, e3, e1]
  generalize n * 8589934592 % 18446744073709551616 = u
  generalize n / 2147483648 = v
  omega
theorem B_turned37 {w : Int} (h0 : 0 ≤ w) (h1 : w < 18446744073709551616) : B (turned w 37) = turnN 37 27 (B w) := by
  refine B_of_toNat ?_
  have h := toNat_B w
  rw [Int.emod_eq_of_lt h0 h1] at h
  rw [turn_toNat (by decide)]
  unfold turned
  rw [Int.fdiv_eq_ediv_of_nonneg _ (by decide), fmod_S]
  show (w * 137438953472 / 18446744073709551616 + w * 137438953472 % 18446744073709551616) % 18446744073709551616 = ((((B w).toNat * 137438953472 % 18446744073709551616 + (B w).toNat / 134217728) % 18446744073709551616 : Nat) : Int)
  generalize (B w).toNat = n at h
  subst h
  clear h0
  have hn : n < 18446744073709551616 := by omega
  have e1 : n * 137438953472 / 18446744073709551616 = n / 134217728 := by omega
  have e2 : ((n : Int) * 137438953472 / 18446744073709551616) = ((n * 137438953472 / 18446744073709551616 : Nat) : Int) := by omega
  have e3 : ((n : Int) * 137438953472 % 18446744073709551616) = ((n * 137438953472 % 18446744073709551616 : Nat) : Int) := by omega
  rw [e2, e3, e1]
  generalize n * 137438953472 % 18446744073709551616 = u
  generalize n / 134217728 = v
  omega
theorem turn_31_33 (X : BitVec 64) : turnN 31 33 (turnN 33 31 X) = X := by
  unfold turnN
  ext i hi
  simp
  by_cases h : i < 31
  · have h1 : ¬ (33 + i < 33) := by omega
    have h2 : X.getLsbD (31 + (33 + i)) = false := BitVec.getLsbD_of_ge _ _ (by omega)
    simp [h, h1, h2, ← BitVec.getLsbD_eq_getElem]
    omega
  · simp [h, ← BitVec.getLsbD_eq_getElem]
    by_cases h2 : i - 31 < 33
    · have h3 : 31 + (i - 31) = i := by omega
      have h4 : X.getLsbD (31 + (33 + i)) = false := BitVec.getLsbD_of_ge _ _ (by omega)
      simp [h2, h3, h4]
    · omega
theorem turn_33_31 (X : BitVec 64) : turnN 33 31 (turnN 31 33 X) = X := by
  unfold turnN
  ext i hi
  simp
  by_cases h : i < 33
  · have h1 : ¬ (31 + i < 31) := by omega
    have h2 : X.getLsbD (33 + (31 + i)) = false := BitVec.getLsbD_of_ge _ _ (by omega)
    simp [h, h1, h2, ← BitVec.getLsbD_eq_getElem]
    omega
  · simp [h, ← BitVec.getLsbD_eq_getElem]
    by_cases h2 : i - 33 < 31
    · have h3 : 33 + (i - 33) = i := by omega
      have h4 : X.getLsbD (33 + (31 + i)) = false := BitVec.getLsbD_of_ge _ _ (by omega)
      simp [h2, h3, h4]
    · omega
theorem turn_27_37 (X : BitVec 64) : turnN 27 37 (turnN 37 27 X) = X := by
  unfold turnN
  ext i hi
  simp
  by_cases h : i < 27
  · have h1 : ¬ (37 + i < 37) := by omega
    have h2 : X.getLsbD (27 + (37 + i)) = false := BitVec.getLsbD_of_ge _ _ (by omega)
    simp [h, h1, h2, ← BitVec.getLsbD_eq_getElem]
    omega
  · simp [h, ← BitVec.getLsbD_eq_getElem]
    by_cases h2 : i - 27 < 37
    · have h3 : 27 + (i - 27) = i := by omega
      have h4 : X.getLsbD (27 + (37 + i)) = false := BitVec.getLsbD_of_ge _ _ (by omega)
      simp [h2, h3, h4]
    · omega
/-- the mix and its inverse -/
def sx (X : BitVec 64) : BitVec 64 := X ^^^ X >>> 33
theorem sx_sx (X : BitVec 64) : sx (sx X) = X := by
  unfold sx
  ext i hi
  simp
  rw [BitVec.getLsbD_of_ge _ _ (by omega)]
  simp
theorem B_sh33 (x : Int) : B (sh33 x) = sx (B x) := by
  unfold sh33 sx
  rw [B_xor]
  congr 1
  refine B_of_toNat ?_
  have h := toNat_B x
  have e : bitAnd (x.fdiv (2 ^ (33 : Int).toNat)) 2147483647 = x.fdiv (2 ^ 33) % 2 ^ 31 := kbt_mask _ 31
  rw [e, BitVec.toNat_ushiftRight, Nat.shiftRight_eq_div_pow, Int.fdiv_eq_ediv_of_nonneg _ (by decide)]
  show (x / 8589934592 % 2147483648) % 18446744073709551616 = (((B x).toNat / 8589934592 : Nat) : Int)
  omega
theorem B_xs33 {x : Int} (h0 : 0 ≤ x) (h1 : x < 18446744073709551616) : B (xs33 x) = sx (B x) := by
  unfold xs33 sx
  rw [B_xor]
  congr 1
  refine B_of_toNat ?_
  have h := toNat_B x
  rw [BitVec.toNat_ushiftRight, Nat.shiftRight_eq_div_pow, Int.fdiv_eq_ediv_of_nonneg _ (by decide)]
  show (x / 8589934592) % 18446744073709551616 = (((B x).toNat / 8589934592 : Nat) : Int)
  omega
def fm (X : BitVec 64) : BitVec 64 := sx (sx (sx X * 18397679294719823053#64) * 14181476777654086739#64)
def um (X : BitVec 64) : BitVec 64 := sx (sx (sx X * B (undo 14181476777654086739)) * B (undo 18397679294719823053))
theorem B_fmix (x : Int) : B (fmix x) = fm (B x) := by
  unfold fmix fm
  rw [B_sh33, B_mul, B_sh33, B_mul, B_sh33]
  rfl
theorem B_unmixed {x : Int} (h0 : 0 ≤ x) (h1 : x < 18446744073709551616) : B (unmixed x) = um (B x) := by
  unfold unmixed um
  rw [B_xs33 (fmod_in _).1 (fmod_in _).2, B_fmod, B_mul, B_xs33 (fmod_in _).1 (fmod_in _).2, B_fmod, B_mul, B_xs33 h0 h1]
theorem undo_a : B (undo 14181476777654086739) * 14181476777654086739#64 = 1#64 := by decide +kernel
theorem undo_b : B (undo 18397679294719823053) * 18397679294719823053#64 = 1#64 := by decide +kernel
theorem undo_5 : B (undo 5) * 5#64 = 1#64 := by decide +kernel
theorem undo_one : B (undo 9782798678568883157) * 9782798678568883157#64 = 1#64 := by decide +kernel
theorem undo_two : B (undo 5545529020109919103) * 5545529020109919103#64 = 1#64 := by decide +kernel
theorem mul_back (X u c : BitVec 64) (h : u * c = 1#64) : X * u * c = X := by
  rw [BitVec.mul_assoc, h, BitVec.mul_one]
theorem fm_um (X : BitVec 64) : fm (um X) = X := by
  unfold fm um
  rw [sx_sx, mul_back _ _ _ undo_b, sx_sx, mul_back _ _ _ undo_a, sx_sx]
theorem trunc_B {x v : Int} (h : B x = B v) (h0 : -9223372036854775808 ≤ v) (h1 : v ≤ 9223372036854775807) : trunc x = v := by
  have a := toNat_B x
  have b := toNat_B v
  rw [h] at a
  have e : x % 18446744073709551616 = v % 18446744073709551616 := by omega
  unfold trunc
  rw [fmod_S]
  split <;> omega
/-! the words of the key and of the hash, in 64 bits -/
def bx1 (H1 H2 X : BitVec 64) : BitVec 64 := (turnN 27 37 (H1 ^^^ (turnN 31 33 (X * 9782798678568883157#64) * 5545529020109919103#64)) + H2) * 5#64 + 1390208809#64
def bx2 (H2 N1 Y : BitVec 64) : BitVec 64 := (turnN 31 33 (H2 ^^^ (turnN 33 31 (Y * 5545529020109919103#64) * 9782798678568883157#64)) + N1) * 5#64 + 944331445#64
theorem B_bk1 (h1 h2 x : Int) : B (bk1 h1 h2 x) = bx1 (B h1) (B h2) (B x) := by
  unfold bk1 bx1
  rw [B_add, B_mul, B_add, B_rotl27, B_xor, B_mul, B_rotl31, B_mul]
  rfl
theorem B_bk2 (h2 n1 y : Int) : B (bk2 h2 n1 y) = bx2 (B h2) (B n1) (B y) := by
  unfold bk2 bx2
  rw [B_add, B_mul, B_add, B_rotl31, B_xor, B_mul, B_rotl33, B_mul]
  rfl
theorem fin_law {h1 h2 l v : Int} (h : fm ((B h1 ^^^ B l) + (B h2 ^^^ B l)) + fm ((B h2 ^^^ B l) + ((B h1 ^^^ B l) + (B h2 ^^^ B l))) = B v) (h0 : -9223372036854775808 ≤ v) (h1' : v ≤ 9223372036854775807) : fin h1 h2 l = v := by
  unfold fin
  refine trunc_B ?_ h0 h1'
  rw [B_add, B_fmix, B_fmix, B_add, B_add, B_add, B_xor, B_xor]
  exact h
theorem xor_back (X Y : BitVec 64) : X ^^^ Y ^^^ Y = X := by rw [BitVec.xor_assoc, BitVec.xor_self, BitVec.xor_zero]
/-- one half of a block undone -/
theorem bx1_back {H1 H2 A : BitVec 64} : bx1 H1 H2 (turnN 33 31 ((turnN 37 27 ((A - 1390208809#64) * B (undo 5) - H2) ^^^ H1) * B (undo 5545529020109919103)) * B (undo 9782798678568883157)) = A := by
  unfold bx1
  rw [mul_back _ _ _ undo_one, turn_31_33, mul_back _ _ _ undo_two, BitVec.xor_comm H1, xor_back, turn_27_37]
  have e : (A - 1390208809#64) * B (undo 5) - H2 + H2 = (A - 1390208809#64) * B (undo 5) := by
    generalize (A - 1390208809#64) * B (undo 5) = Z
    grind
  rw [e, mul_back _ _ _ undo_5]
  grind
theorem bx2_back {H2 N1 A : BitVec 64} : bx2 H2 N1 (turnN 31 33 ((turnN 33 31 ((A - 944331445#64) * B (undo 5) - N1) ^^^ H2) * B (undo 9782798678568883157)) * B (undo 5545529020109919103)) = A := by
  unfold bx2
  rw [mul_back _ _ _ undo_two, turn_33_31, mul_back _ _ _ undo_one, BitVec.xor_comm H2, xor_back, turn_31_33]
  have e : (A - 944331445#64) * B (undo 5) - N1 + N1 = (A - 944331445#64) * B (undo 5) := by
    generalize (A - 944331445#64) * B (undo 5) = Z
    grind
  rw [e, mul_back _ _ _ undo_5]
  grind
section
variable {w f n h1 h2 : Int}
theorem B_kBoth : B (kBoth w f) = um (B w - B f) := by
  unfold kBoth
  rw [B_unmixed (fmod_in _).1 (fmod_in _).2, B_fmod, B_sub]
theorem B_kLast0 (f0 : 0 ≤ f) (f1 : f < 18446744073709551616) : B (kLast0 w f) = um (B f) - um (B w - B f) := by
  unfold kLast0
  rw [B_fmod, B_sub, B_unmixed f0 f1, B_kBoth]
theorem B_kLow : B (kLow w f n h1 h2) = turnN 33 31 ((turnN 37 27 ((B (kAhead w f n) - 1390208809#64) * B (undo 5) - B h2) ^^^ B h1) * B (undo 5545529020109919103)) * B (undo 9782798678568883157) := by
  unfold kLow
  rw [B_fmod, B_mul, B_turned33 (fmod_in _).1 (fmod_in _).2, B_fmod, B_mul, B_xor, B_turned37 (fmod_in _).1 (fmod_in _).2, B_fmod, B_sub, B_mul, B_sub]
  rfl
theorem B_kHigh : B (kHigh w f n h1 h2) = turnN 31 33 ((turnN 33 31 ((B (kLast w f n) - 944331445#64) * B (undo 5) - B (kAhead w f n)) ^^^ B h2) * B (undo 9782798678568883157)) * B (undo 5545529020109919103) := by
  unfold kHigh
  rw [B_fmod, B_mul, B_turned31 (fmod_in _).1 (fmod_in _).2, B_fmod, B_mul, B_xor, B_turned33 (fmod_in _).1 (fmod_in _).2, B_fmod, B_sub, B_mul, B_sub]
  rfl
/-- the last block, and what follows it -/
theorem last_law (f0 : 0 ≤ f) (f1 : f < 18446744073709551616) (h0 : -9223372036854775808 ≤ w) (h1' : w ≤ 9223372036854775807) {g1 g2 : Int} (e1 : B g1 = B h1) (e2 : B g2 = B h2) :
    fin (bk1 g1 g2 (sgI (kLow w f n h1 h2))) (bk2 g2 (bk1 g1 g2 (sgI (kLow w f n h1 h2))) (sgI (kHigh w f n h1 h2))) (n + 16) = w := by
  refine fin_law ?_ h0 h1'
  have a : B (bk1 g1 g2 (sgI (kLow w f n h1 h2))) = B (kAhead w f n) := by
    rw [B_bk1, B_sgI, B_kLow, e1, e2, bx1_back]
  have b : B (bk2 g2 (bk1 g1 g2 (sgI (kLow w f n h1 h2))) (sgI (kHigh w f n h1 h2))) = B (kLast w f n) := by
    rw [B_bk2, a, B_sgI, B_kHigh, e2, bx2_back]
  rw [a, b]
  unfold kAhead kLast
  rw [B_xor, B_xor, xor_back, xor_back, B_fmod, B_sub, B_kBoth, B_kLast0 f0 f1]
  generalize hX : um (B w - B f) = X
  generalize hY : um (B f) = Y
  have s1 : X - (Y - X) + (Y - X) = X := by grind
  have s2 : Y - X + X = Y := by grind
  rw [s1, s2, ← hX, ← hY, fm_um, fm_um]
  generalize B w = W
  generalize B f = G
  grind
theorem first_law (v : Int) : B (bk1 0 0 (sgI v)) = B (kFirst v) := by
  rw [B_bk1, B_sgI]
  unfold kFirst bx1
  rw [B_fmod, B_add, B_mul, B_turned27 (fmod_in _).1 (fmod_in _).2, B_fmod, B_mul, B_turned31 (fmod_in _).1 (fmod_in _).2, B_fmod, B_mul]
  have z : B 0 = 0#64 := rfl
  rw [z, BitVec.zero_xor, BitVec.add_zero]
  rfl
theorem second_law {f g : Int} (e : B g = B f) (v : Int) : B (bk2 0 g (sgI v)) = B (kSecond f v) := by
  rw [B_bk2, B_sgI, e]
  unfold kSecond bx2
  rw [B_fmod, B_add, B_mul, B_add, B_turned31 (fmod_in _).1 (fmod_in _).2, B_fmod, B_mul, B_turned33 (fmod_in _).1 (fmod_in _).2, B_fmod, B_mul]
  have z : B 0 = 0#64 := rfl
  rw [z, BitVec.zero_xor]
  rfl
/-- no octets ahead -/
theorem law1 (f0 : 0 ≤ f) (f1 : f < 18446744073709551616) (h0 : -9223372036854775808 ≤ w) (h1' : w ≤ 9223372036854775807) : mur1 (sgI (kLow w f 0 0 0)) (sgI (kHigh w f 0 0 0)) = w :=
  last_law (n := 0) f0 f1 h0 h1' rfl rfl
/-- sixteen octets ahead -/
theorem law2 (f0 : 0 ≤ f) (f1 : f < 18446744073709551616) (h0 : -9223372036854775808 ≤ w) (h1' : w ≤ 9223372036854775807) (u v : Int) :
    mur2 (sgI u) (sgI v) (sgI (kLow w f 16 (kFirst u) (kSecond (kFirst u) v))) (sgI (kHigh w f 16 (kFirst u) (kSecond (kFirst u) v))) = w :=
  last_law (n := 16) f0 f1 h0 h1' (first_law u) (second_law (first_law u) v)
end
end
section
open PySem PySem.W PyProof.Rows
open PySem.Builtin.Int (intBits)
set_option maxRecDepth 100000
set_option maxHeartbeats 8000000
/-- these octets are hashed to v -/
def Hashes (ks : List Int) (v : Int) : Prop :=
  (∃ a0 a1 a2 a3 a4 a5 a6 a7 a8 a9 a10 a11 a12 a13 a14 a15 x0 x1, ks = [a0, a1, a2, a3, a4, a5, a6, a7, a8, a9, a10, a11, a12, a13, a14, a15] ∧ sgI (w8 a0 a1 a2 a3 a4 a5 a6 a7) = x0 ∧ sgI (w8 a8 a9 a10 a11 a12 a13 a14 a15) = x1 ∧ intBits x0 ≤ 64 ∧ intBits x1 ≤ 64 ∧ mur1 x0 x1 = v) ∨
  (∃ a0 a1 a2 a3 a4 a5 a6 a7 a8 a9 a10 a11 a12 a13 a14 a15 b0 b1 b2 b3 b4 b5 b6 b7 b8 b9 b10 b11 b12 b13 b14 b15 x0 x1 x2 x3, ks = [a0, a1, a2, a3, a4, a5, a6, a7, a8, a9, a10, a11, a12, a13, a14, a15, b0, b1, b2, b3, b4, b5, b6, b7, b8, b9, b10, b11, b12, b13, b14, b15] ∧
    sgI (w8 a0 a1 a2 a3 a4 a5 a6 a7) = x0 ∧ sgI (w8 a8 a9 a10 a11 a12 a13 a14 a15) = x1 ∧ sgI (w8 b0 b1 b2 b3 b4 b5 b6 b7) = x2 ∧ sgI (w8 b8 b9 b10 b11 b12 b13 b14 b15) = x3 ∧ intBits x0 ≤ 64 ∧ intBits x1 ≤ 64 ∧ intBits x2 ≤ 64 ∧ intBits x3 ≤ 64 ∧ mur2 x0 x1 x2 x3 = v)
theorem murH {w : World} {p loose mean mg mb news} {b : Array UInt8} {t : Tok} {v : Int} : MC PySem.Challenge.rw_fe0056_01.row.prog w (Mine.hd.heap_39 w.params) p loose mean mg mb 77 4 news (Hashes (KBw.bInts b) v) [.bytes b t] (fun t => .int v t) := by
  intro dp un gd cn cs a ccd cl outer A₀ base h₀ L m s Q E B F X N T hk hpre hd hu hret
  k_with_none
  w_top off
  rcases hpre with ⟨a0, a1, a2, a3, a4, a5, a6, a7, a8, a9, a10, a11, a12, a13, a14, a15, x0, x1, hb, e0, e1, z0, z1, rfl⟩ | ⟨a0, a1, a2, a3, a4, a5, a6, a7, a8, a9, a10, a11, a12, a13, a14, a15, b0, b1, b2, b3, b4, b5, b6, b7, b8, b9, b10, b11, b12, b13, b14, b15, x0, x1, x2, x3, hb, e0, e1, e2, e3, z0, z1, z2, z3, rfl⟩
  · exact mur16 _ _ _ _ _ _ _ _ _ _ _ _ _ _ _ _ _ B F X N T hk ⟨hb, e0, e1, z0, z1⟩ hd hu hret
  · exact mur32 _ _ _ _ _ _ _ _ _ _ _ _ _ _ _ _ _ B F X N T hk ⟨hb, e0, e1, e2, e3, z0, z1, z2, z3⟩ hd hu hret
theorem w8_oct8 {z : Int} (h0 : 0 ≤ z) (h1 : z < 18446744073709551616) : w8 (z % 256) (z / 256 % 256) (z / 256 / 256 % 256) (z / 256 / 256 / 256 % 256) (z / 256 / 256 / 256 / 256 % 256) (z / 256 / 256 / 256 / 256 / 256 % 256) (z / 256 / 256 / 256 / 256 / 256 / 256 % 256) (z / 256 / 256 / 256 / 256 / 256 / 256 / 256 % 256) = z := by
  unfold w8
  omega
theorem sgI_bits {z : Int} (h : 0 ≤ z ∧ z < 18446744073709551616) : intBits (sgI z) ≤ 64 := by
  unfold sgI
  split <;> exact intBits_le_64 (by omega) (by omega)
theorem kLow_in (w f n h1 h2 : Int) : 0 ≤ kLow w f n h1 h2 ∧ kLow w f n h1 h2 < 18446744073709551616 := fmod_in _
theorem kHigh_in (w f n h1 h2 : Int) : 0 ≤ kHigh w f n h1 h2 ∧ kHigh w f n h1 h2 < 18446744073709551616 := fmod_in _
theorem hashes0 {x y : Int} {ks : List Int} (f0 : 0 ≤ y) (f1 : y < 18446744073709551616) (h0 : -9223372036854775808 ≤ x) (h1 : x ≤ 9223372036854775807)
    (h : ∃ low high, low = kLow x y 0 0 0 ∧ high = kHigh x y 0 0 0 ∧ ks = [] ++ oct8 low ++ oct8 high) : Hashes ks x := by
  obtain ⟨low, high, e1, e2, rfl⟩ := h
  have r1 := kLow_in x y 0 0 0
  have r2 := kHigh_in x y 0 0 0
  rw [← e1] at r1
  rw [← e2] at r2
  refine .inl ⟨_, _, _, _, _, _, _, _, _, _, _, _, _, _, _, _, sgI low, sgI high, rfl, ?_, ?_, sgI_bits r1, sgI_bits r2, ?_⟩
  · rw [w8_oct8 r1.1 r1.2]
  · rw [w8_oct8 r2.1 r2.2]
  · rw [e1, e2]
    exact law1 f0 f1 h0 h1
theorem hashes16 {x y : Int} {ks : List Int} (f0 : 0 ≤ y) (f1 : y < 18446744073709551616) (h0 : -9223372036854775808 ≤ x) (h1 : x ≤ 9223372036854775807) {o0 o1 o2 o3 o4 o5 o6 o7 o8 o9 o10 o11 o12 o13 o14 o15 : Int} (hin : KBa.In [o0, o1, o2, o3, o4, o5, o6, o7, o8, o9, o10, o11, o12, o13, o14, o15])
    (h : ∃ low high, low = kLow x y 16 (kFirst (w8 o0 o1 o2 o3 o4 o5 o6 o7)) (kSecond (kFirst (w8 o0 o1 o2 o3 o4 o5 o6 o7)) (w8 o8 o9 o10 o11 o12 o13 o14 o15)) ∧ high = kHigh x y 16 (kFirst (w8 o0 o1 o2 o3 o4 o5 o6 o7)) (kSecond (kFirst (w8 o0 o1 o2 o3 o4 o5 o6 o7)) (w8 o8 o9 o10 o11 o12 o13 o14 o15)) ∧ ks = [o0, o1, o2, o3, o4, o5, o6, o7, o8, o9, o10, o11, o12, o13, o14, o15] ++ oct8 low ++ oct8 high) : Hashes ks x := by
  obtain ⟨low, high, e1, e2, rfl⟩ := h
  have r1 := kLow_in x y 16 (kFirst (w8 o0 o1 o2 o3 o4 o5 o6 o7)) (kSecond (kFirst (w8 o0 o1 o2 o3 o4 o5 o6 o7)) (w8 o8 o9 o10 o11 o12 o13 o14 o15))
  have r2 := kHigh_in x y 16 (kFirst (w8 o0 o1 o2 o3 o4 o5 o6 o7)) (kSecond (kFirst (w8 o0 o1 o2 o3 o4 o5 o6 o7)) (w8 o8 o9 o10 o11 o12 o13 o14 o15))
  rw [← e1] at r1
  rw [← e2] at r2
  refine .inr ⟨_, _, _, _, _, _, _, _, _, _, _, _, _, _, _, _, _, _, _, _, _, _, _, _, _, _, _, _, _, _, _, _, _, _, sgI low, sgI high, rfl, rfl, rfl, ?_, ?_, sgI_bits (w8_in (in_left (r := [o8, o9, o10, o11, o12, o13, o14, o15]) hin)), sgI_bits (w8_in (in_right (l := [o0, o1, o2, o3, o4, o5, o6, o7]) hin)), sgI_bits r1, sgI_bits r2, ?_⟩
  · rw [w8_oct8 r1.1 r1.2]
  · rw [w8_oct8 r2.1 r2.2]
  · rw [e1, e2]
    exact law2 f0 f1 h0 h1 _ _
/-- the octets that the law sets ahead: none, or sixteen -/
def Octets (ns : List Int) : Prop := ns = [] ∨ (ns.length = 16 ∧ KBa.In ns)
theorem keyH {w : World} {p loose mean mg mb news} {l : Addr} {vs : List Value} {ns : List Int} {x y : Int} {t u : Tok} : MB PySem.Challenge.rw_fe0056_01.row.prog w (Mine.hd.heap_39 w.params) p loose mean mg mb 338 4 news
    (fun h => h.IsList l vs.toArray ∧ IntsAre vs ns ∧ Octets ns ∧ -9223372036854775808 ≤ x ∧ x ≤ 9223372036854775807 ∧ 0 ≤ y ∧ y < 18446744073709551616) [.ref l, .int x t, .int y u] (fun ks => Hashes ks x) := by
  intro dp un gd cn cs a ccd cl outer A₀ base h₀ L m s Q E B F X N T hk hpre hd hu hret
  k_with_none
  w_top off
  obtain ⟨hl, hi, ho, x0, x1, y0, y1⟩ := hpre
  have zx : intBits x ≤ 64 := intBits_le_64 (by omega) (by omega)
  rcases ho with rfl | ⟨hn, hin⟩
  · cases hi
    exact key0 _ _ _ _ _ _ _ _ _ _ _ _ _ _ _ _ _ B F X N T hk ⟨hl, zx, y0, y1⟩ hd hu (fun b t' h' tk' hP F' N' => hret b t' h' tk' (hashes0 y0 y1 x0 x1 hP) F' N')
  · have e16 : ∃ o0 o1 o2 o3 o4 o5 o6 o7 o8 o9 o10 o11 o12 o13 o14 o15, ns = [o0, o1, o2, o3, o4, o5, o6, o7, o8, o9, o10, o11, o12, o13, o14, o15] := by
      match ns, hn with
      | [o0, o1, o2, o3, o4, o5, o6, o7, o8, o9, o10, o11, o12, o13, o14, o15], _ => exact ⟨_, _, _, _, _, _, _, _, _, _, _, _, _, _, _, _, rfl⟩
    obtain ⟨o0, o1, o2, o3, o4, o5, o6, o7, o8, o9, o10, o11, o12, o13, o14, o15, rfl⟩ := e16
    obtain _ | ⟨_, t0, hi⟩ := hi
    obtain _ | ⟨_, t1, hi⟩ := hi
    obtain _ | ⟨_, t2, hi⟩ := hi
    obtain _ | ⟨_, t3, hi⟩ := hi
    obtain _ | ⟨_, t4, hi⟩ := hi
    obtain _ | ⟨_, t5, hi⟩ := hi
    obtain _ | ⟨_, t6, hi⟩ := hi
    obtain _ | ⟨_, t7, hi⟩ := hi
    obtain _ | ⟨_, t8, hi⟩ := hi
    obtain _ | ⟨_, t9, hi⟩ := hi
    obtain _ | ⟨_, t10, hi⟩ := hi
    obtain _ | ⟨_, t11, hi⟩ := hi
    obtain _ | ⟨_, t12, hi⟩ := hi
    obtain _ | ⟨_, t13, hi⟩ := hi
    obtain _ | ⟨_, t14, hi⟩ := hi
    obtain _ | ⟨_, t15, hi⟩ := hi
    cases hi
    exact key16 _ _ _ _ _ _ _ _ _ _ _ _ _ _ _ _ _ B F X N T hk ⟨hl, hin, zx, y0, y1⟩ hd hu (fun b t' h' tk' hP F' N' => hret b t' h' tk' (hashes16 y0 y1 x0 x1 hin hP) F' N')
end
section
open PySem PySem.W PyProof.Rows PySem.NumText
/-! the text of a number of 64 bits, read back -/
theorem digits_all (m : Nat) : AllDigits ((Nat.toDigits 10 m).map Char.toNat) := by
  intro c hc
  obtain ⟨ch, hch, e⟩ := List.mem_map.mp hc
  have r := digit_range (Nat.isDigit_of_mem_toDigits (by decide) (by decide) hch)
  rw [← e]
  exact r
theorem digits_ne (m : Nat) : (Nat.toDigits 10 m).map Char.toNat ≠ [] := by
  intro e
  have h := toDigits_len_ge 10 m
  rw [List.map_eq_nil_iff.mp e] at h
  exact absurd h (by decide)
theorem signs_neg (k : Nat) : (Str.ofString (toString (Int.negSucc k))).cps.toList = 45 :: (Nat.toDigits 10 (k + 1)).map Char.toNat := by
  rw [signs_ofString]
  show ("-" ++ Nat.repr (k + 1)).toList.map Char.toNat = _
  rw [String.toList_append, List.map_append, Nat.toList_repr]
  rfl
theorem text_len {n : Int} (h : n.natAbs < 10 ^ 20) : (Str.ofString (toString n)).length ≤ 21 := by
  have e := int_text_length_le10 (k := 20) (by decide) h
  have l : (Str.ofString (toString n)).length = (toString n).length := by
    have hs := congrArg List.length (signs_ofString (toString n))
    rw [List.length_map] at hs
    show (Str.ofString (toString n)).cps.size = _
    rw [← Array.length_toList, hs]
    rfl
  omega
theorem text_back {n : Int} (h : n.natAbs < 10 ^ 20) : PySem.intText? (Str.ofString (toString n)) = some n := by
  have hl := text_len h
  cases n with
  | ofNat m =>
    have hs : (Str.ofString (toString (Int.ofNat m))).cps.toList = (Nat.toDigits 10 m).map Char.toNat := KIN.signs_num m
    have e := intText_digits (x := Str.ofString (toString (Int.ofNat m))) (by rw [hs]; exact digits_all m) (by rw [hs]; exact digits_ne m) (Nat.le_trans hl (by decide))
    rw [hs, KIN.val_back] at e
    exact e
  | negSucc k =>
    have e := intText_neg (signs_neg k) (digits_all (k + 1)) (digits_ne (k + 1)) (Nat.le_trans hl (by decide))
    rw [KIN.val_back] at e
    exact e
theorem call_text20 {prog : Program} {w : World} {A : Around} {E : Value → Shared → Prop} {s : Shared} {Q : Value → Shared → Prop} {t : Tok} {n : Int} (h : n.natAbs < 10 ^ 20) (hq : Q (.int n s.toks) { s with toks := s.toks + 1 }) :
    wpAny (model prog w) A (call (.type "int") [.str (Str.ofString (toString n)) t]) Q E s :=
  KIN.call_text (text_back h) (Nat.le_trans (text_len h) (by decide)) hq
theorem call_due {prog : Program} {w : World} {A : Around} {E : Value → Shared → Prop} {s : Shared} {Q : Value → Shared → Prop} {t : Tok} {n : Int} (h0 : -9223372036854775808 < n) (h1 : n ≤ 9223372036854775807) (hq : Q (.int n s.toks) { s with toks := s.toks + 1 }) :
    wpAny (model prog w) A (call (.type "int") [.str (Str.ofString (toString n)) t]) Q E s :=
  call_text20 (show n.natAbs < 100000000000000000000 by omega) hq
end
section
open PySem PySem.W PyProof.Rows PySem.Calls PySem.Builtin
set_option maxRecDepth 100000
/-! x != y where the class has __eq__ alone -/
def NeBack (Q : Value → Shared → Prop) (v : Value) (s' : Shared) : Prop := match v with
  | .bool c => Q (.bool (!c)) s'
  | _ => False
section
variable {prog : Program} {w : World} {A : Around} {E : Value → Shared → Prop} {s : Shared} {K : Frag} {x C L f : Addr} {h₀ : Heap} {m : Str → Option Value} {ox : Obj} {od : Option Obj} {b tb : Value}
theorem ne_special {M : Model} {args : List Value} {Q : Option Value → Shared → Prop} (X : K.In s.heap) (I : InstAt s.heap x ox C od) (hs : findIn K (.ref C) "__ne__" = some (some (.builtin "object.__ne__")))
    (h : wpAny M A (call (.builtin "object.__ne__") (.ref x :: args)) (fun v => Q (some v)) E s) : wpAny M A (callSpecialIfBound? (.ref x) "__ne__" args) Q E s := by
  simp only [callSpecialIfBound?, bindSpecialIfBound?]
  refine wpAny_holding (wpAny_bind (wpAny_bind (wpAny_bind (I.type.here ((looks_findIn X hs).here ?_)))))
  simp only [F.cmp_object.ne.bind]
  refine wpAny_bind (wpAny_askSetting (wpAny_ite ?_))
  have fin : wpAny M A (call (.builtin "object.__ne__") ([.ref x] ++ args) >>= fun v => pure (some v)) Q E s := wpAny_bind (wpAny_mono h (fun v s' h' => wpAny_pure h') fun _ _ h' => h')
  split
  · exact wpAny_bind (wpAny_pure (wpAny_pure fin))
  · exact wpAny_tryCatch (wpAny_bind (wpAny_pure (wpAny_pure fin)))
theorem ne_body {Q : Fin → Shared → Prop} (hu : A.units < cLine) (X : K.In s.heap) (I : InstAt s.heap x ox C od) (he : findIn K (.ref C) "__eq__" = some (some (.ref f))) (hf : isFn K (.ref f) = true)
    (h : wpAny (model prog w) A (call (.ref f) [.ref x, b]) (NeBack fun v s' => Q (.done (.ret v)) s') E s) : wpAny (model prog w) A (Builtin.«object.__ne__» ⟨[.ref x, b], []⟩) Q E s := by
  unfold Builtin.«object.__ne__»
  refine wpAny_bind (wpAny_of_eq (a := (.ref x, [b])) (by first | rfl | kernel_rfl) ?_)
  refine wpAny_bind (wpAny_cRoomFor hu ?_)
  refine wpAny_bind (ifBound_K (args := [b]) X I he hf (wpAny_mono h (fun v s' hv => ?_) fun _ _ e => e))
  cases v with
  | bool c =>
    show wpAny _ _ (truthy (.bool c) >>= fun r => ret (.bool (!r))) _ _ _
    exact wpAny_bind (wpAny_truthy_bool (wpAny_pure hv))
  | _ => exact hv.elim
theorem ne_K {Q : Value → Shared → Prop} (hu : A.units + 1 < cLine) (F₀ : Fr h₀ L s.heap m) (X₀ : K.In h₀) (I : InstAt s.heap x ox C od) (hb : Looks (model prog w) s.heap (typeOf b) tb) (hn : notFirst K C tb = true)
    (hs : findIn K (.ref C) "__ne__" = some (some (.builtin "object.__ne__"))) (he : findIn K (.ref C) "__eq__" = some (some (.ref f))) (hf : isFn K (.ref f) = true) (ho : subIn K (.ref C) (.type "object") = some true)
    (h : wpAny (model prog w) A.in1 (call (.ref f) [.ref x, b]) (NeBack Q) E s) : wpAny (model prog w) A (compareOp .NotEq (.ref x) b) Q E s := by
  have X := X₀.keeps F₀.keep
  have one : wpAny (model prog w) A (tryCompare (.ref x) "__ne__" b) (fun r s' => ∃ v, r = some v ∧ Q v s') E s := by
    unfold tryCompare
    refine wpAny_bind (ne_special X I hs (wpAny_call (codeAny_call_builtin F.cmp_object.ne.plain F.cmpEntry_ne (check_slot F.cmpKind_ne F.cmpSplit_ne (I.type.andThen (looks_subIn X ho)) (F.cmpArgs_ne _ _) ?_))))
    refine ne_body (A := A.in1) hu X I he hf (wpAny_mono h (fun v s' hv => ?_) fun _ _ e => e)
    cases v with
    | bool c => exact wpAny_pure ⟨_, rfl, hv⟩
    | _ => exact hv.elim
  show wpAny _ _ (richCompare .NotEq (.ref x) b) _ _ _
  unfold richCompare
  simp only [oneThing_ref]
  refine wpAny_holding (wpAny_bind (wpAny_cRoomFor (Nat.lt_of_succ_lt hu) ?_))
  refine wpAny_bind (I.type.here (wpAny_bind (hb.here ?_)))
  split
  · rename_i q
    have e : subIn K tb (.ref C) = some false := by
      rcases Bool.or_eq_true_iff.mp hn with e | e
      · rw [beq_iff_eq.mp e] at q; simp at q
      · exact beq_iff_eq.mp e
    refine wpAny_bind ((looks_subIn X e).here ?_)
    simp only [Bool.false_eq_true, if_false]
    refine wpAny_bind (wpAny_mono one (fun r s' z => ?_) fun _ _ e => e)
    obtain ⟨v, rfl, hq⟩ := z
    exact wpAny_pure hq
  · refine wpAny_bind (wpAny_pure ?_)
    simp only [Bool.false_eq_true, if_false]
    refine wpAny_bind (wpAny_mono one (fun r s' z => ?_) fun _ _ e => e)
    obtain ⟨v, rfl, hq⟩ := z
    exact wpAny_pure hq
end
end
section
open PySem PySem.W PyProof.Rows
open PySem.Builtin.Int (intBits)
set_option maxRecDepth 100000
set_option maxHeartbeats 8000000
section
variable {prog : Program} {w : World} {M : Model} {A : Around} {E : Value → Shared → Prop} {s : Shared} {t u : Tok}
theorem pow63 {Q : Value → Shared → Prop} (h : Q (.int 9223372036854775808 s.toks) { s with toks := s.toks + 1 }) : wpAny (model prog w) A (binaryOp .Pow (.int 2 t) (.int 63 u)) Q E s :=
  pow_int_small (by decide) (by decide) (by decide) h
theorem pow64 {Q : Value → Shared → Prop} (h : Q (.int 18446744073709551616 s.toks) { s with toks := s.toks + 1 }) : wpAny (model prog w) A (binaryOp .Pow (.int 2 t) (.int 64 u)) Q E s :=
  pow_int_small (by decide) (by decide) (by decide) h
end
section
variable {M : Model} {A : Around} {E : Value → Shared → Prop} {s : Shared} {Q : Unit → Shared → Prop} {env : Env} {n : Str} {e : Int} {t : Tok}
theorem gen_any (h : ∀ x, wpAny M A (storeName env n (.int x t)) Q E s) : wpAny M A (storeName env n (.int e t)) Q E s := h _
theorem gen_in (h0 : -9223372036854775808 ≤ e ∧ e ≤ 9223372036854775807) (h : ∀ x, -9223372036854775808 ≤ x → x ≤ 9223372036854775807 → wpAny M A (storeName env n (.int x t)) Q E s) : wpAny M A (storeName env n (.int e t)) Q E s := h _ h0.1 h0.2
end
theorem octets_in {ns : List Int} (h : ns.length = 16) : Octets (ns.map fun n => n.fmod 256) := by
  refine .inr ⟨by rw [List.length_map, h], fun v hv => ?_⟩
  obtain ⟨n, _, rfl⟩ := List.mem_map.mp hv
  exact ⟨Int.fmod_nonneg_of_pos n (by decide), Int.fmod_lt_of_pos n (by decide)⟩
/-- what the tokens bear: the number itself, but the greatest for the least -/
def IsDue (x d : Int) : Prop := d = if x = -9223372036854775808 then 9223372036854775807 else x
theorem gen_due {M : Model} {A : Around} {E : Value → Shared → Prop} {s : Shared} {Q : Unit → Shared → Prop} {env : Env} {n : Str} {e : Int} {t : Tok} (h0 : -9223372036854775808 ≤ e ∧ e ≤ 9223372036854775807)
    (h : ∀ x d, -9223372036854775808 ≤ x → x ≤ 9223372036854775807 → IsDue x d → -9223372036854775808 < d → d ≤ 9223372036854775807 → wpAny M A (storeName env n (.int x t)) Q E s) : wpAny M A (storeName env n (.int e t)) Q E s :=
  h e (if e = -9223372036854775808 then 9223372036854775807 else e) h0.1 h0.2 rfl (by split <;> omega) (by split <;> omega)
def DueJ (h₀ : Heap) (L : Addr) (m : Str → Option Value) (news : List (Addr × Obj)) (s : Shared) (d : Int) (v : Value) (s₂ : Shared) : Prop :=
  ∃ (t : Tok) (h : Heap) (tk : Nat), v = .int d t ∧ s₂ = { s with heap := h, toks := tk } ∧ Fr h₀ L h m ∧ News h₀ L h news
theorem due_join {M : Model} {A : Around} {E Q : Value → Shared → Prop} {s : Shared} {h₀ : Heap} {L : Addr} {m : Str → Option Value} {news : List (Addr × Obj)} {c : Sem Value} {x d : Int} (_hd : IsDue x d) (_F : Fr h₀ L s.heap m) (_N : News h₀ L s.heap news)
    (hc : wpAny M A c (fun v s₂ => DueJ h₀ L m news s d v s₂) E s) (hk : ∀ (t : Tok) (h : Heap) (tk : Nat), Fr h₀ L h m → News h₀ L h news → Q (.int d t) { s with heap := h, toks := tk }) : wpAny M A c Q E s := by
  refine wpAny_mono hc (fun v s₂ hq => ?_) fun _ _ h => h
  obtain ⟨t, h, tk, rfl, rfl, F, N⟩ := hq
  exact hk t h tk F N
theorem dueJ_end {h₀ h : Heap} {L : Addr} {m : Str → Option Value} {news : List (Addr × Obj)} {s : Shared} {x d y : Int} {t : Tok} {tk : Nat} (F : Fr h₀ L h m) (N : News h₀ L h news) (_hd : IsDue x d) (e : y = d) : DueJ h₀ L m news s d (.int y t) { s with heap := h, toks := tk } := by
  subst e
  exact ⟨t, h, tk, rfl, rfl, F, N⟩
def OctJ (h₀ : Heap) (L : Addr) (m : Str → Option Value) (news : List (Addr × Obj)) (s : Shared) (v : Value) (s₂ : Shared) : Prop :=
  ∃ (D : Addr) (ys : List Value) (ns : List Int) (h : Heap) (tk : Nat), v = .ref D ∧ s₂ = { s with heap := h, toks := tk } ∧ Fr h₀ L h m ∧ News h₀ L h ((D, LCg.lst ys) :: news) ∧ LCg.Off1 D news ∧ IntsAre ys ns ∧ Octets ns
theorem oct_join {M : Model} {A : Around} {E Q : Value → Shared → Prop} {s : Shared} {h₀ : Heap} {L : Addr} {m : Str → Option Value} {news : List (Addr × Obj)} {c : Sem Value} (_F : Fr h₀ L s.heap m) (_N : News h₀ L s.heap news)
    (hc : wpAny M A c (fun v s₂ => OctJ h₀ L m news s v s₂) E s) (hk : ∀ (D : Addr) (ys : List Value) (ns : List Int) (h : Heap) (tk : Nat), Fr h₀ L h m → News h₀ L h ((D, LCg.lst ys) :: news) → LCg.Off1 D news → IntsAre ys ns → Octets ns → Q (.ref D) { s with heap := h, toks := tk }) : wpAny M A c Q E s := by
  refine wpAny_mono hc (fun v s₂ hq => ?_) fun _ _ h => h
  obtain ⟨D, ys, ns, h, tk, rfl, rfl, F, N, o, i, a⟩ := hq
  exact hk D ys ns h tk F N o i a
theorem octJ_end {h₀ h : Heap} {L D : Addr} {m : Str → Option Value} {news all : List (Addr × Obj)} {s : Shared} {ys : List Value} {ns : List Int} {tk : Nat} (F : Fr h₀ L h m) (N : News h₀ L h all) (sub : ∀ p ∈ (D, LCg.lst ys) :: news, p ∈ all) (o : LCg.Off1 D news) (i : IntsAre ys ns) (a : Octets ns) : OctJ h₀ L m news s (.ref D) { s with heap := h, toks := tk } :=
  ⟨D, ys, ns, h, tk, rfl, rfl, F, fun p hp => N p (sub p hp), o, i, a⟩
theorem ite_nsame {x : Int} {P Q : Prop} (h : Q) : if (!(x == x)) = true then P else Q := by simpa using h
theorem ite_esame {x : Int} {P Q : Prop} (h : P) : if (x == x) = true then P else Q := by simpa using h
theorem ite_same {x : Int} {P Q : Prop} (h : Q) : if (x != x) = true then P else Q := by simpa using h
theorem menu_in (n : Int) (i : Nat) : -9223372036854775808 ≤ [n.fmod 3 - 9223372036854775808, 9223372036854775808 - 1 - n.fmod 3, n.fmod 7 - 3, n.fmod 18446744073709551616 - 9223372036854775808].getD i 0 ∧
    [n.fmod 3 - 9223372036854775808, 9223372036854775808 - 1 - n.fmod 3, n.fmod 7 - 3, n.fmod 18446744073709551616 - 9223372036854775808].getD i 0 ≤ 9223372036854775807 := by
  have a0 := Int.fmod_nonneg_of_pos n (show (0 : Int) < 3 by decide)
  have a1 := Int.fmod_lt_of_pos n (show (0 : Int) < 3 by decide)
  have b0 := Int.fmod_nonneg_of_pos n (show (0 : Int) < 7 by decide)
  have b1 := Int.fmod_lt_of_pos n (show (0 : Int) < 7 by decide)
  have c := fmod_in n
  match i with
  | 0 => show _ ≤ n.fmod 3 - 9223372036854775808 ∧ n.fmod 3 - 9223372036854775808 ≤ _; omega
  | 1 => show _ ≤ 9223372036854775808 - 1 - n.fmod 3 ∧ 9223372036854775808 - 1 - n.fmod 3 ≤ _; omega
  | 2 => show _ ≤ n.fmod 7 - 3 ∧ n.fmod 7 - 3 ≤ _; omega
  | 3 => show _ ≤ n.fmod 18446744073709551616 - 9223372036854775808 ∧ n.fmod 18446744073709551616 - 9223372036854775808 ≤ _; omega
  | k + 4 => show -9223372036854775808 ≤ (0 : Int) ∧ (0 : Int) ≤ 9223372036854775807; omega
theorem menu_at {prog : Program} {w : World} {A : Around} {E : Value → Shared → Prop} {s : Shared} {value slice : PySem.Expr} {l : Addr} {a b c d : Int} {ta tb tc td : Tok} {k : Int} {u : Tok} {Q : Value → Shared → Prop} (hl : s.heap.IsList l [Value.int a ta, .int b tb, .int c tc, .int d td].toArray) (h : ∀ t, Q (.int ([a, b, c, d].getD (k.fmod 4).toNat 0) t) s)
    (hs : subscripted slice false (.ref l) (.int (k.fmod 4) u) = operate [.ref l, .int (k.fmod 4) u] (getItem (.ref l) (.int (k.fmod 4) u)) := by with_unfolding_all rfl) :
    wpAny (model prog w) A (subscriptTail value slice (.ref l) (.int (k.fmod 4) u)) Q E s := by
  have h0 := Int.fmod_nonneg_of_pos k (show (0 : Int) < 4 by decide)
  have h1 := Int.fmod_lt_of_pos k (show (0 : Int) < 4 by decide)
  exact item_anyK hl (.cons _ _ (.cons _ _ (.cons _ _ (.cons _ _ .nil)))) h0 h1 (by omega) h hs

theorem good_true {cl : Str → Option Addr} {mean : ExcName → Option Value} {x : WData} {s₁ s' : Shared} {L : Addr} {m : Str → Option Value} {b : Bool} (hb : b = true) (F : Fr s₁.heap L s'.heap m) (hg : s'.gens = #[]) (hos : s'.os = s₁.os := by rfl) :
    GoodW PySem.Challenge.rw_fe0056_01.row.claim cl mean [x] s₁ (.ok (.ret (.bool b))) s' := by
  subst hb
  refine goodW_bool F hg (raisesW_false ?_) ?_ hos
  · wrow_none_raised
  · kc_post
section
variable {prog : Program} {w : World} {A : Around} {E Q : Value → Shared → Prop} {s : Shared} {t u : Tok} {a b x y : Int}
theorem lt_two (_ha : IsDue x a) (_hb : IsDue y b) (h1 : a < b → ¬ b < a → ¬ a = b → Q (.bool true) s) (h2 : ¬ a < b → (a == b) = !decide (b < a) → Q (.bool false) s) : wpAny (model prog w) A (compareOp .Lt (.int a t) (.int b u)) Q E s := by
  by_cases h : a < b
  · exact lt_int (by rw [decide_eq_true h]; exact h1 h (by omega) (by omega))
  · have q : (a == b) = !decide (b < a) := by
      by_cases e : a = b
      · rw [beq_iff_eq.mpr e, decide_eq_false (show ¬ b < a by omega)]; rfl
      · rw [beq_eq_false_iff_ne.mpr e, decide_eq_true (show b < a by omega)]; rfl
    exact lt_int (by rw [decide_eq_false h]; exact h2 h q)
theorem lt_yes (_h : IsDue x a) (h : a < b) (k : Q (.bool true) s) : wpAny (model prog w) A (compareOp .Lt (.int a t) (.int b u)) Q E s := lt_int (by rwa [decide_eq_true h])
theorem lt_no (_h : IsDue x a) (h : ¬ a < b) (k : Q (.bool false) s) : wpAny (model prog w) A (compareOp .Lt (.int a t) (.int b u)) Q E s := lt_int (by rwa [decide_eq_false h])
theorem gt_no (_h : IsDue x a) (h : ¬ b < a) (k : Q (.bool false) s) : wpAny (model prog w) A (compareOp .Gt (.int a t) (.int b u)) Q E s := gt_int (by rwa [decide_eq_false (show ¬ b < a from h)])
theorem eq_no (_h : IsDue x a) (h : ¬ a = b) (k : Q (.bool false) s) : wpAny (model prog w) A (compareOp .Eq (.int a t) (.int b u)) Q E s := eq_int (by rwa [beq_eq_false_iff_ne.mpr h])
end
end
end Mine
section
open PySem PySem.W PyProof.Rows
local macro_rules | `(tactic| walk_at "mine call") => `(tactic| ((case k1 => k_asm); (case k2 => k_asm); (case k3 => k_asm); (case k4 => k_asm); (case k5 => k_asm); (case k6 => first | exact rfl | assumption); (case k8 => ktr_room); (case k9 => ktr_units)))
local macro_rules | `(tactic| walk_at "mine store") => `(tactic| (k_dflt (refine' storeX_L ?F ?N ?_ ?a ?b; (case F => k_asm); (case N => k_asm); (case a => rfl); (case b => rfl); k_whole; intro h' F' N'; (try k_sweep))))
local macro_rules | `(tactic| walk_at "storeName") => `(tactic| ((with_reducible show wpAny _ _ (storeName _ (PySem.Str.ofString "n") (Value.int _ _)) _ _ _); (with_reducible refine Mine.gen_any ?_); intro x9; walk_at "mine store"))
local macro_rules | `(tactic| walk_at "binaryOp Pow int int") => `(tactic| (with_reducible first | refine Mine.pow63 ?_ | refine Mine.pow64 ?_))
local macro_rules | `(tactic| walk_at "storeName") => `(tactic| ((with_reducible show wpAny _ _ (storeName _ (PySem.Str.ofString "wanted") (Value.int _ _)) _ _ _); (with_reducible refine Mine.gen_due (Mine.menu_in _ _) ?_); intro x9 d9 l9 u9 hd9 r9 s9; walk_at "mine store"))
local macro_rules | `(tactic| walk_at "subscriptTail") => `(tactic| (k_here; (with_reducible show wpAny _ _ (subscriptTail (PySem.Expr.List _ _) _ (Value.ref _) (Value.int (Int.fmod _ 4) _)) _ _ _); k_dflt (refine' Mine.menu_at (News.isList (by k_asm) (by k_mem)) ?_); intro _))
local macro_rules | `(tactic| walk_at "eval IfExp") => `(tactic| (k_here; (with_reducible show wpAny _ _ (eval (PySem.Expr.IfExp (PySem.Expr.Compare (PySem.Expr.Name (PySem.Str.ofString "wanted") _) _ _ _) _ _ _) _) _ _ _); (fail_if_success (with_reducible show wpAny _ _ _ (fun v s₂ => Mine.DueJ _ _ _ _ _ _ v s₂) _ _)); k_dflt (refine' Mine.due_join ?hdd ?F ?N ?_ ?_; (case hdd => assumption); (case F => k_asm); (case N => k_asm); rotate_left; (intro t' h' tk' F' N'); rotate_right)))
local macro_rules | `(tactic| walk_at "eval IfExp") => `(tactic| (k_here; (with_reducible show wpAny _ _ (eval (PySem.Expr.IfExp (PySem.Expr.Compare (PySem.Expr.Name (PySem.Str.ofString "h") _) _ _ _) _ _ _) _) _ _ _); (fail_if_success (with_reducible show wpAny _ _ _ (fun v s₂ => Mine.DueJ _ _ _ _ _ _ v s₂) _ _)); k_dflt (refine' Mine.due_join ?hdd ?F ?N ?_ ?_; (case hdd => assumption); (case F => k_asm); (case N => k_asm); rotate_left; (intro t' h' tk' F' N'); rotate_right)))
local macro_rules | `(tactic| walk_at "eval IfExp") => `(tactic| (k_here; (with_reducible show wpAny _ _ (eval (PySem.Expr.IfExp (PySem.Expr.BinOp _ _ _ _) (PySem.Expr.ListComp _ _ _ _) _ _) _) _ _ _); (fail_if_success (with_reducible show wpAny _ _ _ (fun v s₂ => Mine.OctJ _ _ _ _ _ v s₂) _ _)); k_dflt (refine' Mine.oct_join ?F ?N ?_ ?_; (case F => k_asm); (case N => k_asm); rotate_left; (intro D' ys' ns' h' tk' F' N' o1' i9 a9; (try simp only [LCg.Off1, and_true] at o1'); (try k_sweep)); rotate_right)))
local macro_rules | `(tactic| walk_at "OctJ") => `(tactic| (k_dflt (refine Mine.octJ_end (by k_asm) (by k_asm) (List.forall_mem_cons.mpr ⟨by k_mem, by lcg_sub⟩) (by (simp only [LCg.Off1, and_true]); (repeat' apply And.intro) <;> first | trivial | omega) (by first | exact IntsAre.nil | kba_listInts) (by first | exact .inl rfl | exact Mine.octets_in (by simp [rangeKs_length])))))
local macro_rules | `(tactic| walk_at "DueJ") => `(tactic| (k_dflt (refine Mine.dueJ_end (by k_asm) (by k_asm) (by assumption) ?_); ((with_reducible rename Mine.IsDue _ _ => hd8); unfold Mine.IsDue at hd8; (try simp only [beq_iff_eq, bne_iff_ne, ne_eq, Decidable.not_not, Bool.not_eq_true, beq_eq_false_iff_ne] at *); split at hd8 <;> omega)))
local macro_rules | `(tactic| walk_at "ite") => `(tactic| (with_reducible first | refine Mine.ite_same ?_ | refine Mine.ite_nsame ?_ | refine Mine.ite_esame ?_))
local macro_rules | `(tactic| walk_at "call type:int") => `(tactic| (k_here; (with_reducible refine Mine.call_due (by assumption) (by assumption) ?_)))
local macro_rules | `(tactic| walk_at "compareOp NotEq ref") => `(tactic| (k_here; (with_reducible show wpAny _ _ (compareOp CmpOp.NotEq (Value.ref _) _) _ _ _); k_dflt (refine' Mine.ne_K ?k1 ?k2 ?k3 ?k4 ?k5 ?k6 ?k7 ?k8 ?k9 ?k0 ?_; (case k1 => first | k_units | ktr_units); (case k2 => k_asm); (case k3 => k_asm); (case k4 => k_inst); (case k5 => k_typeOf); (case k6 => k_is); (case k7 => k_is); (case k8 => k_is); (case k9 => k_is); (case k0 => k_is); k_whole)))
local macro_rules | `(tactic| walk_at "NeBack") => `(tactic| (dsimp only [Mine.NeBack]))
local macro_rules | `(tactic| walk_at "compareOp Is") => `(tactic| (k_here; (with_reducible show wpAny _ _ (compareOp CmpOp.Is (Value.bool _) Value.notImplemented) _ _ _); refine wpAny_is_other (by rfl) (by intro x; cases x) ?_))
local macro_rules | `(tactic| walk_at "compareOp Lt int int") => `(tactic| first | (with_reducible refine Mine.lt_yes (by assumption) (by assumption) ?_) | (with_reducible refine Mine.lt_no (by assumption) (by assumption) ?_) | ((with_reducible refine Mine.lt_two (by assumption) (by assumption) ?_ ?_); (intro p1 p2 p3; rotate_left; intro p1 p2; rotate_left)))
local macro_rules | `(tactic| walk_at "compareOp Gt int int") => `(tactic| with_reducible refine Mine.gt_no (by assumption) (by assumption) ?_)
local macro_rules | `(tactic| walk_at "compareOp Eq int int") => `(tactic| with_reducible refine Mine.eq_no (by assumption) (by assumption) ?_)
local macro_rules | `(tactic| walk_at "subscriptTail") => `(tactic| (k_here; (first | (with_reducible show wpAny _ _ (subscriptTail (PySem.Expr.Name (PySem.Str.ofString "tokens") _) _ (Value.ref _) (Value.int _ _)) _ _ _) | (with_reducible show wpAny _ _ (subscriptTail (PySem.Expr.Name (PySem.Str.ofString "dues") _) _ (Value.ref _) (Value.int _ _)) _ _ _)); (with_unfolding_all refine' item_litK ?k1 ?k2 ?k3 ?k4 ?_ ?k6; (case k1 => is_list); (case k2 => decide); (case k3 => decide); (case k4 => rfl); (case k6 => with_unfolding_all rfl); k_whole)))
local macro_rules | `(tactic| kc_close) => `(tactic| (kc_bool; refine Mine.good_true ?_ (by with_reducible assumption) (by first | with_reducible assumption | assumption); first | exact rfl | ((with_reducible rename (_ == _) = !decide _ => hq); rw [hq]; (generalize decide _ = q); cases q <;> rfl)))
set_option maxRecDepth 100000 in
set_option maxHeartbeats 8000000 in
theorem PySem.Challenge.cw_fe0056_01_holds : PySem.Challenge.rw_fe0056_01.Holds := by
  refine Mine.hd ?_
  k_with_none
  w_top off
  k_go0; (all_goals try k_fold)
  k_with "call ref" => (k_dflt (refine' Mine.murH _ _ _ _ _ _ _ _ _ _ _ _ _ _ _ _ _ ?k1 ?k2 ?k3 ?k4 ?k5 ?k6 ?k7 ?k8 ?k9 ?_; (case k7 => assumption); walk_at "mine call"; intro t9 h9 tk9 F9 N9; (try dsimp only); (try k_fold)))
  k_with "call ref" => (k_dflt (refine' Mine.keyH _ _ _ _ _ _ _ _ _ _ _ _ _ _ _ _ _ ?k1 ?k2 ?k3 ?k4 ?k5 ?k6 ?k7 ?k8 ?k9 ?_; (case k7 => refine ⟨?l1, ?l2, ?l3, by assumption, by assumption, (Mine.fmod_in _).1, (Mine.fmod_in _).2⟩; (case l1 => kba_isList); (case l2 => first | assumption | kba_listInts); (case l3 => assumption)); walk_at "mine call"; intro b9 t9 h9 tk9 hH9 F9 N9; (try dsimp only); (try k_fold)))
  k_steps
end
