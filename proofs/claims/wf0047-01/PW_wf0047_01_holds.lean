import PyProof.Rows.All
import Wide.All
import OpenK.AllK
import Wide.FinOn
import PySem.Challenge.RW_wf0047_01
open PySem PySem.W PyProof.Rows
set_option Elab.async false
namespace Mine

/-! Head0 -/
section
set_option maxRecDepth 100000 in
set_option maxHeartbeats 8000000 in
open_top hd for PySem.Challenge.rw_wf0047_01
end

/-! Base1 -/
section
abbrev Led := List (Addr × Obj)

abbrev Prg : Program := PySem.Challenge.rw_wf0047_01.row.prog
abbrev tupOf (its : Array Value) : Obj := { cls := .type "tuple", data := .seq its }

/-- a contract of a def: from a ledger to a ledger and a value -/
def Ctr (w : World) (f : Addr) (args : List Value) (dp un : Nat) (news : Led) (Post : Value → Led → Prop) : Prop :=
  ∀ (gd : Option (List Code)) (cn : Str) (cs : Scope) (a : Addr) (ccd : Value) (cl : List (Str × Addr)) (outer : List Env) (A₀ : Around) (base h₀ : Heap) (L : Addr) (m : Str → Option Value) (s : Shared)
    (Q E : Value → Shared → Prop) (p : Program) (loose : List Str) (mean : ExcName → Option Value) (mg mb : Str → Option Value),
    Below A₀ base outer h₀ → Fr h₀ L s.heap m → (hd.heap_39 w.params).In h₀ → News h₀ L s.heap news → Top p loose mean mg mb h₀ → cs.kind = .function →
    CodeHd base 43 39 → CodeHd base 50 46 → CodeHd base 141 137 →
    (∀ r news' h' tk', Fr h₀ L h' m → News h₀ L h' news' → Post r news' → Q r { s with heap := h', toks := tk' }) →
    wpAny (model Prg w) (ktrTop dp un gd cn cs L a ccd cl outer) (call (.ref f) args) Q E s
end

/-! Base2 -/
section
structure Stop (P : Prop) : Prop where
  go : P
theorem ite_no {c T F : Prop} [Decidable c] (h : ¬ c) (x : F) : if c then T else F := by rw [if_neg h]; exact x
theorem ite_yes {c T F : Prop} [Decidable c] (h : c) (x : T) : if c then T else F := by rw [if_pos h]; exact x
theorem stopped {P : Prop} (h : Stop P) : P := h.go
theorem bits_eq {a : Int} (n : Nat) (h1 : (2 ^ n : Int) ≤ a) (h2 : a < (2 ^ (n + 1) : Int)) : (Builtin.Int.intBits a : Int) = (n : Int) + 1 := by
  have hp : (0 : Int) < 2 ^ n := Int.pow_pos (by decide)
  have ha : a ≠ 0 := by omega
  unfold Builtin.Int.intBits
  rw [if_neg (by simpa using ha)]
  have e : a.natAbs.log2 = n := by
    have h3 : ((a.natAbs : Nat) : Int) = a := by omega
    refine (Nat.log2_eq_iff (by omega)).mpr ⟨?_, ?_⟩
    · have : ((2 ^ n : Nat) : Int) ≤ (a.natAbs : Int) := by rw [h3]; push_cast; exact h1
      exact_mod_cast this
    · have : (a.natAbs : Int) < ((2 ^ (n + 1) : Nat) : Int) := by rw [h3]; push_cast; exact h2
      exact_mod_cast this
  rw [e]; push_cast; rfl
section
open PySem.Calls
variable {prog : Program} {w : World} {A A₀ : Around} {s : Shared} {K : Frag} {L : Addr} {h₀ base : Heap} {m mg mb : Str → Option Value} {own rest : Led} {p : Program} {loose : List Str} {mean : ExcName → Option Value}
/-- a call that may change what it owns (own): the rest stays below its frame -/
theorem code_defR {env : Env} {outer : List Env} {R : Result → Shared → Prop} {name qual : Str} {params : Arguments} {body : List Stmt} {scope : Scope} {dV kV doc pm cdv ct oc : Value} {an od : Option Addr} {osl : Array (Option Value)} {f : Addr} {args : Args} {binds : List (Str × Value)}
    (B : Below A₀ base outer h₀) (F : Fr h₀ L s.heap m) (X₀ : K.In h₀) (N : News h₀ L s.heap own) (hr : ∀ q ∈ rest, s.heap.get? q.1 = some q.2 ∧ q.1 ∉ own.map (·.1)) (T : Top p loose mean mg mb h₀) (hA : A.frames = some (env :: outer)) (hf : env.frame = some L) (hke : env.scope.kind = .function)
    (ho : K.lookup f = some ⟨oc, od, .func (fnOf name qual params body scope dV kV doc pm an cdv ct), osl⟩) (hcd : codeIn K cdv qual = true) (hroom : A.depth < recursionLimit)
    (hbind : BindsTo s (fnOf name qual params body scope dV kV doc pm an cdv ct) args binds) (hloc : ∀ y ∈ binds, scope.names.lookup y.1 = some .local)
    (h : ∀ g L' h₁, Fr h₀ L g m → Fr g L' h₁ (fun y => binds.reverse.lookup y) → News g L' h₁ own → (∀ q ∈ rest, g.get? q.1 = some q.2) → (∀ q ∈ own, q.1 < L') → Below A base (env :: outer) g → K.In g → Top p loose mean mg mb g →
      wpAny (model prog w) (A.deeper (envOf qual scope L' f cdv)) (execs body (envOf qual scope L' f cdv))
        (fun fl s' => LeaveK h₀ L m g R (match fl with | .ret v => v | _ => .none) s')
        (fun e s' => wpAny (model prog w) (A.deeper (envOf qual scope L' f cdv)) (leaving (envOf qual scope L' f cdv) e) (fun _ s'' => R (.error e) s'') (fun e' s'' => R (.error e') s'') s')
        { s with heap := h₁, toks := s.toks + binds.length })
    (hco : scope.isCoroutine = false) (hgen : scope.isGenerator = false) (hk : scope.kind = .function)
    (hcell : ∀ x ∈ scope.names, x.2 ≠ .cell) : codeAny (model prog w) A (.call (.ref f) args) R s := by
  obtain ⟨FG, BG, st, lv⟩ := groundX (R := R) B F N hA hf hke
  refine codeAny_call_def (fd := fnOf name qual params body scope dV kV doc pm an cdv ct) (body := body) (binds := binds) hroom ((X₀.keeps F.keep) _ _ ho) rfl (T.nolimit.keeps F.keep) (codeRec_of (X₀.keeps F.keep) hcd) rfl hbind hcell hloc (fun h₁ hns hk₁ => ?_) hco hgen hk
  refine wpAny_mono (h _ s.heap.objs.size h₁ FG ⟨hns, fun b o e => hk₁ b o (of_hideAll _ e), Nat.le_of_eq (hideAll_size _ _)⟩ (fun q hq => ?_) (fun q hq => hideAll_get _ (hr q hq).1 (hr q hq).2) (fun q hq => Heap.lt_size (N q hq).1) BG (X₀.keeps st) (T.keeps st)) (fun fl s' hl => lv _ _ hl) fun _ _ y => y
  exact ⟨hk₁ _ _ (N q hq).1, Nat.ne_of_lt (Heap.lt_size (N q hq).1), hideAll_none _ (List.mem_map_of_mem hq)⟩
/-- what stayed below the frame stands in the caller's ledger again -/
theorem news_back {g : Heap} {L' : Addr} {h h' : Heap} {m' : Str → Option Value} (N : News h₀ L h rest) (hg : ∀ q ∈ rest, g.get? q.1 = some q.2) (F : Fr g L' h' m') : News h₀ L h' rest :=
  fun q hq => ⟨F.keep _ _ (hg q hq), (N q hq).2⟩
theorem news_app {h : Heap} {a b : Led} (Na : News h₀ L h a) (Nb : News h₀ L h b) : News h₀ L h (a ++ b) := fun q hq => (List.mem_append.mp hq).elim (Na q) (Nb q)
theorem news_sub {h : Heap} {a b : Led} (N : News h₀ L h a) (hs : ∀ q ∈ b, q ∈ a) : News h₀ L h b := fun q hq => N q (hs q hq)
end
section
variable {prog : Program} {w : World} {A : Around} {E : Value → Shared → Prop} {s : Shared} {a : Int} {t : Tok} {Q : Value → Shared → Prop}
theorem bits_0 (h1 : a = 0) (h : Q (.int 0 s.toks) { s with toks := s.toks + 1 }) : wpAny (model prog w) A (call (.builtin "int.bit_length") [.int a t]) Q E s := by
  subst h1; exact call_int_bit_length h
theorem bits_1 (h1 : 1 ≤ a) (h2 : a < 2) (h : Q (.int 1 s.toks) { s with toks := s.toks + 1 }) : wpAny (model prog w) A (call (.builtin "int.bit_length") [.int a t]) Q E s := by
  refine call_int_bit_length ?_; rw [bits_eq 0 (by simpa using h1) (by simpa using h2)]; exact h
theorem bits_2 (h1 : 2 ≤ a) (h2 : a < 4) (h : Q (.int 2 s.toks) { s with toks := s.toks + 1 }) : wpAny (model prog w) A (call (.builtin "int.bit_length") [.int a t]) Q E s := by
  refine call_int_bit_length ?_; rw [bits_eq 1 (by simpa using h1) (by simpa using h2)]; exact h
theorem bits_3 (h1 : 4 ≤ a) (h2 : a < 8) (h : Q (.int 3 s.toks) { s with toks := s.toks + 1 }) : wpAny (model prog w) A (call (.builtin "int.bit_length") [.int a t]) Q E s := by
  refine call_int_bit_length ?_; rw [bits_eq 2 (by simpa using h1) (by simpa using h2)]; exact h
theorem bits_4 (h1 : 8 ≤ a) (h2 : a < 16) (h : Q (.int 4 s.toks) { s with toks := s.toks + 1 }) : wpAny (model prog w) A (call (.builtin "int.bit_length") [.int a t]) Q E s := by
  refine call_int_bit_length ?_; rw [bits_eq 3 (by simpa using h1) (by simpa using h2)]; exact h
end
end

/-! Base3 -/
section
section
variable {prog : Program} {w : World} {A : Around} {E : Value → Shared → Prop} {s : Shared} {a b : Int} {t u : Tok} {Q : Value → Shared → Prop}
theorem bits_v (v : Int) (e : ((Builtin.Int.intBits a : Nat) : Int) = v) (h : Q (.int v s.toks) { s with toks := s.toks + 1 }) : wpAny (model prog w) A (call (.builtin "int.bit_length") [.int a t]) Q E s := by
  subst e; exact call_int_bit_length h
theorem add_v (v : Int) (e : a + b = v) (h : Q (.int v s.toks) { s with toks := s.toks + 1 }) : wpAny (model prog w) A (binaryOp .Add (.int a t) (.int b u)) Q E s := by
  subst e; exact add_int h
theorem sub_v (v : Int) (e : a - b = v) (h : Q (.int v s.toks) { s with toks := s.toks + 1 }) : wpAny (model prog w) A (binaryOp .Sub (.int a t) (.int b u)) Q E s := by
  subst e; exact sub_int h
theorem mul_v (v : Int) (e : a * b = v) (hm : IntMulOk a b) (h : Q (.int v s.toks) { s with toks := s.toks + 1 }) : wpAny (model prog w) A (binaryOp .Mult (.int a t) (.int b u)) Q E s := by
  subst e; exact mul_int h hm
theorem shl_v (v : Int) (hn : 0 ≤ b) (hn2 : b ≤ 1000000) (ha : a.natAbs < 2 ^ 64) (e : a * 2 ^ b.toNat = v) (h : Q (.int v s.toks) { s with toks := s.toks + 1 }) : wpAny (model prog w) A (binaryOp .LShift (.int a t) (.int b u)) Q E s := by
  subst e; exact lshift_int_small hn hn2 ha h
theorem shr_v (v : Int) (hn : 0 ≤ b) (e : a.fdiv (2 ^ b.toNat) = v) (h : Q (.int v s.toks) { s with toks := s.toks + 1 }) : wpAny (model prog w) A (binaryOp .RShift (.int a t) (.int b u)) Q E s := by
  subst e; exact rshift_int hn h
theorem xor_v (v : Int) (e : Builtin.bitXor a b = v) (h : Q (.int v s.toks) { s with toks := s.toks + 1 }) : wpAny (model prog w) A (binaryOp .BitXor (.int a t) (.int b u)) Q E s := by
  subst e; exact xor_int h
theorem fdiv_v (v : Int) (hb : b ≠ 0) (hp : Builtin.divisionGoesByPylong a b = false) (e : a.fdiv b = v) (h : Q (.int v s.toks) { s with toks := s.toks + 1 }) : wpAny (model prog w) A (binaryOp .FloorDiv (.int a t) (.int b u)) Q E s := by
  subst e; exact floordiv_int hb h (.inl hp)
theorem divmod_v {h₀ : Heap} {L : Addr} {m : Str → Option Value} {news : Led} (x y : Int) (F : Fr h₀ L s.heap m) (N : News h₀ L s.heap news) (hb : b ≠ 0) (hp : Builtin.divisionGoesByPylong a b = false) (hx : a.fdiv b = x) (hy : a.fmod b = y)
    (h : ∀ q h' t1 t2 tk', Fr h₀ L h' m → News h₀ L h' ((q, tupOf #[.int x t1, .int y t2]) :: news) → (∀ p ∈ news, p.1 < q) → Q (.ref q) { s with heap := h', toks := tk' }) :
    wpAny (model prog w) A (call (.builtin "divmod") [.int a t, .int b u]) Q E s := by
  subst hx; subst hy
  exact divmod_N F N hb (fun h' F' N' => h _ h' _ _ _ F' N' fun p hp => Heap.lt_size (N p hp).1) (.inl hp)
end
abbrev q1 : Str := Str.ofString "_int2digits" ++ Str.ofString ".<locals>." ++ Str.ofString "inner"
abbrev q2 : Str := Str.ofString "_digits2int" ++ Str.ofString ".<locals>." ++ Str.ofString "inner"
def tab (ln : Int) (c : Addr) : Obj := tabObj (#[] ++ #[rawInt ln, rawInt 4, .ref c])
structure CodeAt (c : Addr) (oc : Obj) (q : Str) : Prop where
  go : ∃ vs t, oc.data = .fields vs ∧ vs[1]? = some (.str q t)
/-- the two tables of the inner defs: cold (no code made), warm (made) -/
def Tabs : Bool → Led → Prop
  | true, news => (39, tabObj #[]) ∈ news ∧ (46, tabObj #[]) ∈ news
  | false, news => ∃ c1 o1 c2 o2, (39, tab 53 c1) ∈ news ∧ (46, tab 68 c2) ∈ news ∧ (c1, o1) ∈ news ∧ (c2, o2) ∈ news ∧ CodeAt c1 o1 q1 ∧ CodeAt c2 o2 q2
theorem Ctr.use {w : World} {f : Addr} {args : List Value} {dp un : Nat} {news : Led} {Post : Value → Led → Prop} {gd : Option (List Code)} {cn : Str} {cs : Scope} {a : Addr} {ccd : Value} {cl : List (Str × Addr)} {outer : List Env} {A₀ : Around} {base h₀ : Heap} {L : Addr} {m : Str → Option Value} {s : Shared}
    {Q E : Value → Shared → Prop} {p : Program} {loose : List Str} {mean : ExcName → Option Value} {mg mb : Str → Option Value} (C : Ctr w f args dp un news Post)
    (B : Below A₀ base outer h₀) (F : Fr h₀ L s.heap m) (X : (hd.heap_39 w.params).In h₀) (N : News h₀ L s.heap news) (T : Top p loose mean mg mb h₀) (hk : cs.kind = .function)
    (k1 : CodeHd base 43 39) (k2 : CodeHd base 50 46) (k3 : CodeHd base 141 137)
    (ret : ∀ r news' h' tk', Fr h₀ L h' m → News h₀ L h' news' → Post r news' → Q r { s with heap := h', toks := tk' }) :
    wpAny (model Prg w) (ktrTop dp un gd cn cs L a ccd cl outer) (call (.ref f) args) Q E s :=
  by
  unfold Ctr at C
  specialize C gd cn cs a ccd cl outer A₀ base h₀ L m s Q E p loose mean mg mb
  specialize C B
  specialize C F
  specialize C X
  specialize C N
  specialize C T
  specialize C hk k1
  specialize C k2
  specialize C k3
  specialize C ret
  exact C
theorem Tabs.mono {b : Bool} {news news' : Led} (h : Tabs b news) (hs : ∀ p ∈ news, p ∈ news') : Tabs b news' := by
  cases b with
  | true => exact ⟨hs _ h.1, hs _ h.2⟩
  | false =>
    obtain ⟨c1, o1, c2, o2, a, b, c, d, e, f⟩ := h
    exact ⟨c1, o1, c2, o2, hs _ a, hs _ b, hs _ c, hs _ d, e, f⟩
theorem Tabs.ne {b : Bool} {news : Led} {adr : List Addr} (h : Tabs b news) (ho : OwnOff news adr) {x : Addr} (hx : x ∈ adr) : x ≠ 39 ∧ x ≠ 46 := by
  cases b with
  | true => exact ⟨fun e => ho _ h.1 _ hx e.symm, fun e => ho _ h.2 _ hx e.symm⟩
  | false =>
    obtain ⟨c1, o1, c2, o2, a, b, _⟩ := h
    exact ⟨fun e => ho _ a _ hx e.symm, fun e => ho _ b _ hx e.symm⟩
theorem allLt_mem {d : Addr} {l : Led} (h : AllLt d l) : ∀ p ∈ l, p.1 < d := by
  induction l with
  | nil => intro p hp; exact absurd hp (by simp)
  | cons q r ih =>
    intro p hp
    have h' : @LT.lt Nat _ q.1 d ∧ AllLt d r := h
    rcases List.mem_cons.mp hp with e | hp
    · rw [e]; exact h'.1
    · exact ih h'.2 p hp
theorem ints_snoc {n : Int} {t : Tok} {vs : List Value} {ns : List Int} (h : IntsAre vs ns) : IntsAre (vs ++ [.int n t]) (ns ++ [n]) := by
  induction h with
  | nil => exact .cons _ _ .nil
  | cons _ _ _ ih => exact .cons _ _ ih
theorem ints_len {vs : List Value} {ns : List Int} (h : IntsAre vs ns) : vs.length = ns.length := by
  induction h with
  | nil => rfl
  | cons _ _ _ ih => simp [ih]
theorem back_push {prog : Program} {w : World} {A : Around} {E : Value → Shared → Prop} {s : Shared} {h₀ : Heap} {L : Addr} {news : Led} {value slice : PySem.Expr} {a : Addr} {arr : Array Value} {n : Nat} {u : Tok} {x : Value} {Q : Value → Shared → Prop}
    (N : News h₀ L s.heap news) (hm : (a, W.listOf (arr.push x) n) ∈ news) (h : Q x s)
    (hs : subscripted slice false (.ref a) (.int (-1) u) = operate [.ref a, .int (-1) u] (getItem (.ref a) (.int (-1) u)) := by with_unfolding_all rfl) (hg : ∀ r, letTemporaryGo value (.ref a) r = pure () := by intro _; with_unfolding_all rfl) :
    wpAny (model prog w) A (subscriptTail value slice (.ref a) (.int (-1) u)) Q E s :=
  kim_back (n := n) (l := arr.toList ++ [x]) N hm rfl (by show Data.seq (arr.push x) n = _; obtain ⟨l⟩ := arr; simp) (by decide) (by simp; omega) (by decide) (by
    have e : ((-1 : Int) + ((arr.toList ++ [x]).length : Int)).toNat = arr.toList.length := by rw [List.length_append, List.length_singleton]; omega
    rw [e]; simp) h hs hg
def keepOff (l : List Addr) (news : Led) : Led := news.filter fun q => !l.contains q.1
theorem mem_keepOff {l : List Addr} {news : Led} {q : Addr × Obj} : q ∈ keepOff l news ↔ q ∈ news ∧ q.1 ∉ l := by
  unfold keepOff; rw [List.mem_filter]; simp
theorem off_own {h₀ h : Heap} {L : Addr} {own news : Led} (N : News h₀ L h news) : ∀ q ∈ keepOff (own.map (·.1)) news, h.get? q.1 = some q.2 ∧ q.1 ∉ own.map (·.1) :=
  fun q hq => ⟨(N q (mem_keepOff.mp hq).1).1, (mem_keepOff.mp hq).2⟩
theorem own_news {h₀ h : Heap} {L : Addr} {own news : Led} (N : News h₀ L h news) (hs : ∀ q ∈ own, q ∈ news) : News h₀ L h own := fun q hq => N q (hs q hq)
/-- an entry of the ledger whose address is owned is the owned one -/
theorem same_obj {h₀ h : Heap} {L : Addr} {news : Led} (N : News h₀ L h news) {p q : Addr × Obj} (hp : p ∈ news) (hq : q ∈ news) (e : p.1 = q.1) : p = q := by
  have h1 := (N p hp).1; have h2 := (N q hq).1
  rw [e, h2] at h1
  exact Prod.ext e (Option.some.inj h1).symm
theorem tl_ne {h₀ h : Heap} {L : Addr} {news : Led} {a b : Addr} {items its : Array Value} {n : Nat} (N : News h₀ L h news) (ha : (a, tupOf items) ∈ news) (hb : (b, W.listOf its n) ∈ news) : @Ne Nat a b := fun e => by
  have h1 : tupOf items = W.listOf its n := congrArg (fun p : Addr × Obj => p.2) (same_obj N ha hb e)
  have h2 := congrArg Obj.cls h1
  simp at h2
def DivPost (x y : Int) (news : Led) (r : Value) (news' : Led) : Prop :=
  ∃ q t1 t2, r = .ref q ∧ (q, tupOf #[.int x t1, .int y t2]) ∈ news' ∧ Tabs false news' ∧ ∀ p ∈ news, p.1 ≠ 39 → p.1 ≠ 46 → p ∈ news'
theorem Tabs.keepOff {h₀ h : Heap} {L : Addr} {news : Led} {adr : List Addr} (hT : Tabs false news) (N : News h₀ L h news) (hs : ∀ x ∈ adr, ∃ o its n, (x, o) ∈ news ∧ o.data = .seq its n) : Tabs false (keepOff adr news) := by
  obtain ⟨c1, o1, c2, o2, a, b, c, d, ⟨vs1, t1, e1, e1'⟩, ⟨vs2, t2, e2, e2'⟩⟩ := hT
  have off : ∀ y o', (y, o') ∈ news → (∃ vs, o'.data = .fields vs) → y ∉ adr := fun y o' hy ⟨vs, hd⟩ hm => by
    obtain ⟨o, its, n, ho, hdo⟩ := hs y hm
    have h1 : (y, o') = (y, o) := same_obj N hy ho rfl
    rw [(Prod.mk.inj h1).2, hdo] at hd
    cases hd
  exact ⟨c1, o1, c2, o2, mem_keepOff.mpr ⟨a, off _ _ a ⟨_, rfl⟩⟩, mem_keepOff.mpr ⟨b, off _ _ b ⟨_, rfl⟩⟩, mem_keepOff.mpr ⟨c, off _ _ c ⟨_, e1⟩⟩, mem_keepOff.mpr ⟨d, off _ _ d ⟨_, e2⟩⟩, ⟨vs1, t1, e1, e1'⟩, ⟨vs2, t2, e2, e2'⟩⟩
end

/-! Plain1 -/
section
def wt (r : Int) : Int := if r < 3 then 1 else if r < 7 then 3 else 7
def digs : Nat → Int → List (Int × Int)
  | 0, _ => []
  | f + 1, r => if r ≤ 0 then [] else (r.fdiv (wt r), wt r) :: digs f (r.fmod (wt r))
def figs (r : Int) : List Int := (digs 5 r).map (·.1)
def wts (r : Int) : List Int := (digs 5 r).map (·.2)
theorem upto14 {P : Int → Prop} (h : ∀ n : Fin 14, P ((n.val : Int) + 1)) (r : Int) (h0 : 1 ≤ r) (h1 : r ≤ 14) : P r := by
  have := h ⟨(r - 1).toNat, by omega⟩
  have e : (((r - 1).toNat : Nat) : Int) + 1 = r := by omega
  rwa [e] at this
theorem digs_step (r : Int) (h0 : 1 ≤ r) (h1 : r ≤ 14) : figs r = r.fdiv (wt r) :: figs (r.fmod (wt r)) ∧ wts r = wt r :: wts (r.fmod (wt r)) ∧ 0 ≤ r.fmod (wt r) ∧ r.fmod (wt r) < r :=
  upto14 (P := fun r => figs r = r.fdiv (wt r) :: figs (r.fmod (wt r)) ∧ wts r = wt r :: wts (r.fmod (wt r)) ∧ 0 ≤ r.fmod (wt r) ∧ r.fmod (wt r) < r) (by decide) r h0 h1
theorem digs_len : ∀ (f : Nat) (r : Int), (digs f r).length ≤ f
  | 0, _ => Nat.le_refl _
  | f + 1, r => by
    unfold digs
    split
    · simp
    · simpa using digs_len f _
theorem figs_len (r : Int) : (figs r).length ≤ 5 := by unfold figs; rw [List.length_map]; exact digs_len 5 r
theorem wts_len (r : Int) : (wts r).length ≤ 5 := by unfold wts; rw [List.length_map]; exact digs_len 5 r
theorem wt_made (r : Int) (h0 : 1 ≤ r) (h1 : r ≤ 14) : ∃ kb k1 p : Int, ((Builtin.Int.intBits (r + 1) : Nat) : Int) = kb ∧ kb - 1 = k1 ∧ 0 ≤ k1 ∧ k1 ≤ 10 ∧ 1 * 2 ^ k1.toNat = p ∧ p - 1 = wt r := by
  have : ∃ n : Nat, n ≤ 10 ∧ (2 ^ n : Int) ≤ r + 1 ∧ r + 1 < (2 ^ (n + 1) : Int) ∧ (2 ^ n : Int) - 1 = wt r := by
    refine upto14 (P := fun r => ∃ n : Nat, n ≤ 10 ∧ (2 ^ n : Int) ≤ r + 1 ∧ r + 1 < (2 ^ (n + 1) : Int) ∧ (2 ^ n : Int) - 1 = wt r) ?_ r h0 h1
    have h : ∀ m : Fin 14, ∃ n : Fin 4, (2 ^ n.val : Int) ≤ (m.val : Int) + 1 + 1 ∧ (m.val : Int) + 1 + 1 < (2 ^ (n.val + 1) : Int) ∧ (2 ^ n.val : Int) - 1 = wt ((m.val : Int) + 1) := by decide
    intro m
    obtain ⟨n, a, b, c⟩ := h m
    exact ⟨n.val, by omega, a, b, c⟩
  obtain ⟨n, hn, a, b, c⟩ := this
  refine ⟨(n : Int) + 1, n, 2 ^ n, bits_eq n a b, by omega, by omega, by omega, ?_, c⟩
  rw [Int.toNat_natCast, Int.one_mul]
end

/-! Plain2 -/
section
def up (p : Nat → Nat) : Nat → Nat → Nat
  | 0, i => i
  | n + 1, i => up p n (p i)
theorem up_add (p : Nat → Nat) : ∀ (b a i : Nat), up p a (up p b i) = up p (b + a) i
  | 0, a, i => by rw [Nat.zero_add]; rfl
  | b + 1, a, i => by rw [show b + 1 + a = (b + a) + 1 by omega]; exact up_add p b a (p i)
theorem up_succ (p : Nat → Nat) (n i : Nat) : up p (n + 1) i = p (up p n i) := by rw [← up_add p n 1 i]; rfl
def J (n : Nat) : Nat := ([0, 0, 1, 0, 3, 4, 3, 0, 7, 8, 7, 10, 11, 10, 7] : List Nat).getD n 0
theorem J_step : ∀ n : Fin 14, J (n.val + 1) = (if n.val + J (J n.val) = 2 * J n.val then J (J n.val) else n.val) ∧ J n.val ≤ n.val ∧ J (J n.val) ≤ J n.val := by decide
theorem J_le : ∀ n : Fin 15, J n.val ≤ n.val := by decide
structure Tr (N : Nat) (p l d : Nat → Nat) (k : Nat → Int) : Prop where
  n1 : N ≤ 15
  l0 : l 0 = 0
  p0 : p 0 = 0
  d0 : d 0 = 0
  par : ∀ i, 0 < i → i < N → p i < i
  dep : ∀ i, 0 < i → i < N → d i = d (p i) + 1
  key : ∀ i, 0 < i → i < N → k (p i) ≤ k i
  leap : ∀ i, 0 < i → i < N → l i = if d (p i) + d (l (l (p i))) = 2 * d (l (p i)) then l (l (p i)) else p i
section
variable {N : Nat} {p l d : Nat → Nat} {k : Nat → Int}
theorem Tr.dle (T : Tr N p l d k) : ∀ i, i < N → d i ≤ i := by
  intro i
  induction i using Nat.strongRecOn with
  | _ i ih =>
    intro hi
    by_cases h : i = 0
    · rw [h, T.d0]; omega
    · have h1 := T.par i (by omega) hi
      have h2 := T.dep i (by omega) hi
      have h3 := ih _ h1 (by omega)
      omega
theorem Tr.d14 (T : Tr N p l d k) {i : Nat} (hi : i < N) : d i ≤ 14 := by have := T.dle i hi; have := T.n1; omega
theorem Tr.root (T : Tr N p l d k) {i : Nat} (hi : i < N) (h : d i = 0) : i = 0 := by
  by_cases h0 : i = 0
  · exact h0
  · have := T.dep i (by omega) hi; omega
theorem Tr.lt (T : Tr N p l d k) : ∀ i, i < N → l i ≤ i ∧ (0 < i → l i < i) := by
  intro i
  induction i using Nat.strongRecOn with
  | _ i ih =>
    intro hi
    by_cases h : i = 0
    · subst h; rw [T.l0]; omega
    · have h1 := T.par i (by omega) hi
      have h2 := ih _ h1 (by omega)
      have h3 := ih (l (p i)) (by omega) (by omega)
      rw [T.leap i (by omega) hi]
      split <;> omega
theorem Tr.dl (T : Tr N p l d k) : ∀ i, i < N → d (l i) = J (d i) := by
  intro i
  induction i using Nat.strongRecOn with
  | _ i ih =>
    intro hi
    by_cases h : i = 0
    · subst h; rw [T.l0, T.d0]; rfl
    · have h1 := T.par i (by omega) hi
      have h2 := T.dep i (by omega) hi
      have h3 := (T.lt (p i) (by omega)).1
      have e1 := ih _ h1 (by omega)
      have e2 := ih (l (p i)) (by omega) (by omega)
      rw [e1] at e2
      have h14 := T.d14 hi
      have hJ := (J_step ⟨d (p i), by omega⟩).1
      dsimp only at hJ
      rw [h2, hJ, T.leap i (by omega) hi, e2, e1]
      split
      · exact e2
      · rfl
theorem jj_sub {a b c : Nat} (h1 : b ≤ a) (h2 : c ≤ b) : a + 1 - c = (a - b + (b - c)) + 1 := by omega
theorem Tr.lup (T : Tr N p l d k) : ∀ i, i < N → l i = up p (d i - J (d i)) i := by
  intro i
  induction i using Nat.strongRecOn with
  | _ i ih =>
    intro hi
    by_cases h : i = 0
    · subst h; rw [T.l0, T.d0]; rfl
    · have h1 := T.par i (by omega) hi
      have h2 := T.dep i (by omega) hi
      have h3 := (T.lt (p i) (by omega)).1
      have e1 := ih _ h1 (by omega)
      have e2 := ih (l (p i)) (by omega) (by omega)
      have f1 := T.dl (p i) (by omega)
      have f2 := T.dl (l (p i)) (by omega)
      rw [f1] at f2
      have h14 := T.d14 hi
      obtain ⟨hJ, hJ1, hJ2⟩ := J_step ⟨d (p i), by omega⟩
      dsimp only at hJ hJ1 hJ2
      rw [h2, hJ, T.leap i (by omega) hi, f2, f1]
      split
      · rw [e2, f1]
        conv => lhs; rw [e1]
        rw [up_add]
        rw [jj_sub hJ1 hJ2]
        rfl
      · rw [show d (p i) + 1 - d (p i) = 0 + 1 by omega]; rfl
theorem Tr.up_lt (T : Tr N p l d k) : ∀ (n i : Nat), i < N → up p n i ≤ i
  | 0, i, _ => Nat.le_refl i
  | n + 1, i, hi => by
    by_cases h : i = 0
    · subst h
      have := T.up_lt n (p 0) (by rw [T.p0]; exact hi)
      rw [T.p0] at this
      show up p n (p 0) ≤ 0
      rw [T.p0]; exact this
    · have h1 := T.par i (by omega) hi
      exact Nat.le_trans (T.up_lt n (p i) (by omega)) (by omega)
theorem Tr.d_up (T : Tr N p l d k) : ∀ (n i : Nat), i < N → n ≤ d i → d (up p n i) = d i - n
  | 0, i, _, _ => by simp [up]
  | n + 1, i, hi, hn => by
    by_cases h : i = 0
    · subst h; have := T.d0; omega
    · have h1 := T.par i (by omega) hi
      have h2 := T.dep i (by omega) hi
      have := T.d_up n (p i) (by omega) (by omega)
      show d (up p n (p i)) = _
      omega
theorem Tr.k_up (T : Tr N p l d k) (n i : Nat) (hi : i < N) : k (up p (n + 1) i) ≤ k (up p n i) := by
  rw [up_succ]
  have h := T.up_lt n i hi
  by_cases h0 : up p n i = 0
  · rw [h0, T.p0]; exact Int.le_refl _
  · exact T.key _ (by omega) (by omega)
theorem Tr.k_mono (T : Tr N p l d k) (i : Nat) (hi : i < N) : ∀ (n m : Nat), n ≤ m → k (up p m i) ≤ k (up p n i) := by
  intro n m h
  induction m with
  | zero => have : n = 0 := by omega
            subst this; exact Int.le_refl _
  | succ m ih =>
    by_cases e : n = m + 1
    · rw [e]; exact Int.le_refl _
    · exact Int.le_trans (T.k_up m i hi) (ih (by omega))
theorem Tr.up_root (T : Tr N p l d k) {i : Nat} (hi : i < N) : up p (d i) i = 0 := by
  have h := T.d_up (d i) i hi (Nat.le_refl _)
  exact T.root (Nat.lt_of_le_of_lt (T.up_lt _ _ hi) hi) (by omega)
/-- the nearest one upward whose key is not greater -/
def Near (p : Nat → Nat) (k : Nat → Int) (asked : Int) (node v : Nat) : Prop :=
  ∃ a, v = up p a node ∧ k v ≤ asked ∧ ∀ b, b < a → asked < k (up p b node)
theorem near_one {asked : Int} {node v v' : Nat} (h : Near p k asked node v) (h' : Near p k asked node v') : v = v' := by
  obtain ⟨a, e, q, g⟩ := h
  obtain ⟨a', e', q', g'⟩ := h'
  rcases Nat.lt_trichotomy a a' with c | c | c
  · have := g' a c; rw [← e] at this; omega
  · rw [e, e', c]
  · have := g a' c; rw [← e'] at this; omega
end
theorem figs_shape : ∀ n : Fin 15, 0 < n.val → figs n.val = [1] ∨ figs n.val = [2] ∨ figs n.val = [1, 1] ∨ figs n.val = [1, 2] ∨ figs n.val = [1, 1, 1] ∨ figs n.val = [1, 1, 2] := by decide
theorem figs_facts : ∀ n : Fin 15, 0 < n.val →
    (figs n.val).dropLast = List.replicate ((figs n.val).length - 1) 1 ∧ ((figs n.val).getLastD 0 = 1 ∨ (figs n.val).getLastD 0 = 2) ∧ (figs n.val).sum = 1 + (figs (J n.val : Nat)).sum ∧
    (wts n.val).getLastD 0 = (n.val : Int) - J n.val ∧ figs n.val ≠ [] ∧ wts n.val ≠ [] := by decide
/-- the four lists of the tree -/
structure Good (P D K L : List Int) : Prop where
  zp : 0 < P.length
  z1 : P.length ≤ 15
  zd : D.length = P.length
  zk : K.length = P.length
  zl : L.length = P.length
  p0 : P.getD 0 0 = 0
  d0 : D.getD 0 0 = 0
  k0 : K.getD 0 0 = 0
  l0 : L.getD 0 0 = 0
  par : ∀ i : Nat, 0 < i → i < P.length → 0 ≤ P.getD i 0 ∧ P.getD i 0 < i
  dep : ∀ i : Nat, 0 < i → i < P.length → D.getD i 0 = D.getD (P.getD i 0).toNat 0 + 1
  key : ∀ i : Nat, 0 < i → i < P.length → K.getD (P.getD i 0).toNat 0 ≤ K.getD i 0
  lpos : ∀ i : Nat, i < P.length → 0 ≤ L.getD i 0 ∧ L.getD i 0 ≤ i
  leap : ∀ i : Nat, 0 < i → i < P.length → L.getD i 0 =
    if D.getD (P.getD i 0).toNat 0 - D.getD (L.getD (P.getD i 0).toNat 0).toNat 0 = D.getD (L.getD (P.getD i 0).toNat 0).toNat 0 - D.getD (L.getD (L.getD (P.getD i 0).toNat 0).toNat 0).toNat 0
    then L.getD (L.getD (P.getD i 0).toNat 0).toNat 0 else P.getD i 0
abbrev nat (P : List Int) (i : Nat) : Nat := (P.getD i 0).toNat
section
variable {P D K L : List Int}
theorem nat_lt {x : Int} {i n : Nat} (h : 0 ≤ x ∧ x < i) (hi : i < n) : x.toNat < n := by omega
theorem nat_le {x : Int} {i n : Nat} (h : 0 ≤ x ∧ x ≤ i) (hi : i < n) : x.toNat < n := by omega
theorem nat_lt_i {x : Int} {i : Nat} (h : 0 ≤ x ∧ x < i) : x.toNat < i := by omega
theorem nat_one {x y : Int} (h : 0 ≤ x) (e : y = x + 1) : y.toNat = x.toNat + 1 := by omega
theorem leap_iff {a b c : Int} (h1 : 0 ≤ a) (h2 : 0 ≤ b) (h3 : 0 ≤ c) : (a - b = b - c) ↔ (a.toNat + c.toNat = 2 * b.toNat) := by
  obtain ⟨x, rfl⟩ := Int.eq_ofNat_of_zero_le h1
  obtain ⟨y, rfl⟩ := Int.eq_ofNat_of_zero_le h2
  obtain ⟨z, rfl⟩ := Int.eq_ofNat_of_zero_le h3
  rw [Int.toNat_natCast, Int.toNat_natCast, Int.toNat_natCast]
  clear h1 h2 h3
  constructor <;> intro h <;> omega
theorem Good.dpos (G : Good P D K L) : ∀ i : Nat, i < P.length → 0 ≤ D.getD i 0 := by
  intro i
  induction i using Nat.strongRecOn with
  | _ i ih =>
    intro hi
    by_cases h : i = 0
    · subst h; rw [G.d0]; exact Int.le_refl _
    · have h1 := G.par i (Nat.pos_of_ne_zero h) hi
      have := ih (P.getD i 0).toNat (nat_lt_i h1) (nat_lt h1 hi)
      rw [G.dep i (Nat.pos_of_ne_zero h) hi]; exact Int.le_add_one this
theorem Good.tr (G : Good P D K L) : Tr P.length (nat P) (nat L) (nat D) (fun i => K.getD i 0) where
  n1 := G.z1
  l0 := by show (L.getD 0 0).toNat = 0; rw [G.l0]; rfl
  p0 := by show (P.getD 0 0).toNat = 0; rw [G.p0]; rfl
  d0 := by show (D.getD 0 0).toNat = 0; rw [G.d0]; rfl
  par := fun i h0 hi => nat_lt_i (G.par i h0 hi)
  dep := fun i h0 hi => nat_one (G.dpos _ (nat_lt (G.par i h0 hi) hi)) (G.dep i h0 hi)
  key := fun i h0 hi => G.key i h0 hi
  leap := fun i h0 hi => by
    have h1 := nat_lt (G.par i h0 hi) hi
    have h2 := nat_le (G.lpos (P.getD i 0).toNat h1) h1
    have h3 := nat_le (G.lpos (L.getD (P.getD i 0).toNat 0).toNat h2) h2
    have e := leap_iff (G.dpos _ h1) (G.dpos _ h2) (G.dpos _ h3)
    show (L.getD i 0).toNat = if (D.getD (P.getD i 0).toNat 0).toNat + (D.getD (L.getD (L.getD (P.getD i 0).toNat 0).toNat 0).toNat 0).toNat = 2 * (D.getD (L.getD (P.getD i 0).toNat 0).toNat 0).toNat then (L.getD (L.getD (P.getD i 0).toNat 0).toNat 0).toNat else (P.getD i 0).toNat
    rw [G.leap i h0 hi]
    by_cases hh : D.getD (P.getD i 0).toNat 0 - D.getD (L.getD (P.getD i 0).toNat 0).toNat 0 = D.getD (L.getD (P.getD i 0).toNat 0).toNat 0 - D.getD (L.getD (L.getD (P.getD i 0).toNat 0).toNat 0).toNat 0
    · rw [if_pos hh, if_pos (e.mp hh)]
    · rw [if_neg hh, if_neg fun x => hh (e.mpr x)]
theorem nat_cast {l : List Int} {i : Nat} (h : 0 ≤ l.getD i 0) : l.getD i 0 = (nat l i : Nat) := by show _ = ((l.getD i 0).toNat : Int); omega
end
end

/-! Plain3 -/
section
theorem getD_app {l : List Int} {x : Int} {i : Nat} (h : i < l.length) : (l ++ [x]).getD i 0 = l.getD i 0 := by
  rw [List.getD_eq_getElem?_getD, List.getD_eq_getElem?_getD, List.getElem?_append_left h]
theorem getD_end {l : List Int} {x : Int} {i : Nat} (h : i = l.length) : (l ++ [x]).getD i 0 = x := by
  subst h; rw [List.getD_eq_getElem?_getD]; simp
theorem good_one : Good [0] [0] [0] [0] where
  zp := by decide
  z1 := by decide
  zd := rfl
  zk := rfl
  zl := rfl
  p0 := rfl
  d0 := rfl
  k0 := rfl
  l0 := rfl
  par := fun i h0 hi => by simp only [List.length_cons, List.length_nil] at hi; omega
  dep := fun i h0 hi => by simp only [List.length_cons, List.length_nil] at hi; omega
  key := fun i h0 hi => by simp only [List.length_cons, List.length_nil] at hi; omega
  lpos := fun i hi => by
    simp only [List.length_cons, List.length_nil] at hi
    have : i = 0 := by omega
    subst this; decide
  leap := fun i h0 hi => by simp only [List.length_cons, List.length_nil] at hi; omega
theorem getD_app' {P l : List Int} {x : Int} {i : Nat} (z : l.length = P.length) (h : i < P.length) : (l ++ [x]).getD i 0 = l.getD i 0 := getD_app (z ▸ h)
theorem getD_end' {P l : List Int} {x : Int} {i : Nat} (z : l.length = P.length) (h : i = P.length) : (l ++ [x]).getD i 0 = x := getD_end (h.trans z.symm)
theorem len_snoc {P l : List Int} {x r : Int} (z : l.length = P.length) : (l ++ [x]).length = (P ++ [r]).length := by rw [List.length_append, List.length_append, z]; rfl
theorem snoc_lt {P : List Int} {r : Int} {i : Nat} (h : i < (P ++ [r]).length) (e : i ≠ P.length) : i < P.length := by
  rw [List.length_append, List.length_singleton] at h
  exact Nat.lt_of_le_of_ne (Nat.le_of_lt_succ h) e
theorem leap_snoc {a r : Int} {n : Nat} (C : Prop) [Decidable C] (ha : 0 ≤ a ∧ a ≤ (n : Int)) (hr : 0 ≤ r ∧ r ≤ (n : Int)) : 0 ≤ (if C then a else r) ∧ (if C then a else r) ≤ (n : Int) := by
  split
  · exact ha
  · exact hr
theorem good_snoc {P D K L : List Int} (G : Good P D K L) (hz : P.length < 15) (r inc : Int) (h0 : 0 ≤ r) (h1 : r < P.length) (hi : 0 ≤ inc) :
    Good (P ++ [r]) (D ++ [D.getD r.toNat 0 + 1]) (K ++ [K.getD r.toNat 0 + inc])
      (L ++ [if D.getD r.toNat 0 - D.getD (L.getD r.toNat 0).toNat 0 = D.getD (L.getD r.toNat 0).toNat 0 - D.getD (L.getD (L.getD r.toNat 0).toNat 0).toNat 0 then L.getD (L.getD r.toNat 0).toNat 0 else r]) := by
  have zp := G.zp
  have zd := G.zd
  have zk := G.zk
  have zl := G.zl
  have rn : r.toNat < P.length := nat_lt_i ⟨h0, h1⟩
  have l1 := G.lpos r.toNat rn
  have m1 := nat_le l1 rn
  have l2 := G.lpos (L.getD r.toNat 0).toNat m1
  have m2 := nat_le l2 m1
  have hr2 : 0 ≤ r ∧ r ≤ (P.length : Int) := ⟨h0, Int.le_of_lt h1⟩
  have l2' : 0 ≤ L.getD (L.getD r.toNat 0).toNat 0 ∧ L.getD (L.getD r.toNat 0).toNat 0 ≤ (P.length : Int) := ⟨l2.1, Int.le_trans l2.2 (Int.ofNat_le.mpr (Nat.le_of_lt m1))⟩
  refine ⟨by simp, by rw [List.length_append]; exact hz, len_snoc zd, len_snoc zk, len_snoc zl, ?_, ?_, ?_, ?_, ?_, ?_, ?_, ?_, ?_⟩
  · rw [getD_app zp]; exact G.p0
  · rw [getD_app' zd zp]; exact G.d0
  · rw [getD_app' zk zp]; exact G.k0
  · rw [getD_app' zl zp]; exact G.l0
  · intro i hi0 hi1
    by_cases e : i = P.length
    · rw [getD_end e, e]; exact ⟨h0, h1⟩
    · have hi2 := snoc_lt hi1 e
      rw [getD_app hi2]; exact G.par i hi0 hi2
  · intro i hi0 hi1
    by_cases e : i = P.length
    · rw [getD_end (l := P) e, getD_end' zd e, getD_app' zd rn]
    · have hi2 := snoc_lt hi1 e
      have hp := nat_lt (G.par i hi0 hi2) hi2
      rw [getD_app (l := P) hi2, getD_app' zd hi2, getD_app' zd hp]; exact G.dep i hi0 hi2
  · intro i hi0 hi1
    by_cases e : i = P.length
    · rw [getD_end (l := P) e, getD_app' (l := K) zk rn, getD_end' (l := K) (i := i) zk e]; exact Int.le_add_of_nonneg_right hi
    · have hi2 := snoc_lt hi1 e
      have hp := nat_lt (G.par i hi0 hi2) hi2
      rw [getD_app (l := P) (i := i) hi2, getD_app' (l := K) zk hp, getD_app' (l := K) (i := i) zk hi2]; exact G.key i hi0 hi2
  · intro i hi1
    by_cases e : i = P.length
    · rw [getD_end' zl e, e]
      exact leap_snoc _ l2' hr2
    · have hi2 := snoc_lt hi1 e
      rw [getD_app' zl hi2]; exact G.lpos i hi2
  · intro i hi0 hi1
    by_cases e : i = P.length
    · rw [getD_end (l := P) e, getD_end' (l := L) zl e, getD_app' (l := D) zd rn, getD_app' (l := L) zl rn, getD_app' (l := D) zd m1, getD_app' (l := L) zl m1, getD_app' (l := D) zd m2]
    · have hi2 := snoc_lt hi1 e
      have hp := nat_lt (G.par i hi0 hi2) hi2
      have q1 := nat_le (G.lpos (P.getD i 0).toNat hp) hp
      have q2 := nat_le (G.lpos (L.getD (P.getD i 0).toNat 0).toNat q1) q1
      rw [getD_app (l := P) hi2, getD_app' (l := L) zl hi2, getD_app' (l := D) zd hp, getD_app' (l := L) zl hp, getD_app' (l := D) zd q1, getD_app' (l := L) zl q1, getD_app' (l := D) zd q2]
      exact G.leap i hi0 hi2
end

/-! Base4 -/
section
theorem mem_as {α : Type} {a : α} {l : List α} (h : a ∈ l) : List.Mem a l := h
/-- the tree's tuple and its four lists in the ledger -/
structure TreeAt (news : Led) (t : Addr) (P D K L : List Int) : Prop where
  go : ∃ lp ld lk ll vp vd vk vl np nd nk nl, (t, tupOf #[.ref lp, .ref ld, .ref lk, .ref ll]) ∈ news ∧ (lp, W.listOf (List.toArray vp) np) ∈ news ∧ (ld, W.listOf (List.toArray vd) nd) ∈ news ∧ (lk, W.listOf (List.toArray vk) nk) ∈ news ∧ (ll, W.listOf (List.toArray vl) nl) ∈ news ∧
    IntsAre vp P ∧ IntsAre vd D ∧ IntsAre vk K ∧ IntsAre vl L
theorem TreeAt.mono {news news' : Led} {t : Addr} {P D K L : List Int} (h : TreeAt news t P D K L) (hs : ∀ p ∈ news, p ∈ news') : TreeAt news' t P D K L := by
  obtain ⟨lp, ld, lk, ll, vp, vd, vk, vl, np, nd, nk, nl, a, b, c, d, e, r⟩ := h
  exact ⟨lp, ld, lk, ll, vp, vd, vk, vl, np, nd, nk, nl, hs _ a, hs _ b, hs _ c, hs _ d, hs _ e, r⟩
theorem ints_1 {vs : List Value} {a : Int} (h : IntsAre vs [a]) : ∃ t, vs = [.int a t] := by
  cases h; rename_i t vs h; cases h; exact ⟨t, rfl⟩
theorem ints_2 {vs : List Value} {a b : Int} (h : IntsAre vs [a, b]) : ∃ t u, vs = [.int a t, .int b u] := by
  cases h; rename_i t vs h; obtain ⟨u, rfl⟩ := ints_1 h; exact ⟨t, u, rfl⟩
theorem ints_3 {vs : List Value} {a b c : Int} (h : IntsAre vs [a, b, c]) : ∃ t u v, vs = [.int a t, .int b u, .int c v] := by
  cases h; rename_i t vs h; obtain ⟨u, v, rfl⟩ := ints_2 h; exact ⟨t, u, v, rfl⟩
theorem ints_last {vs : List Value} {ns : List Int} (h : IntsAre vs ns) (hne : ns ≠ []) : ∃ t, vs[vs.length - 1]? = some (.int (ns.getLastD 0) t) := by
  induction h with
  | nil => exact absurd rfl hne
  | cons n t h ih =>
    rename_i vs ns
    cases h with
    | nil => exact ⟨t, rfl⟩
    | cons n' t' h' =>
      obtain ⟨t'', e⟩ := ih (by simp)
      refine ⟨t'', ?_⟩
      simpa using e
theorem back_ints {prog : Program} {w : World} {A : Around} {E : Value → Shared → Prop} {s : Shared} {h₀ : Heap} {L : Addr} {news : Led} {value slice : PySem.Expr} {a : Addr} {vs : List Value} {ns : List Int} {n : Nat} {u : Tok} {Q : Value → Shared → Prop}
    (N : News h₀ L s.heap news) (hm : (a, W.listOf (List.toArray vs) n) ∈ news) (hi : IntsAre vs ns) (hne : ns ≠ []) (h : ∀ t, Q (.int (ns.getLastD 0) t) s)
    (hs : subscripted slice false (.ref a) (.int (-1) u) = operate [.ref a, .int (-1) u] (getItem (.ref a) (.int (-1) u)) := by with_unfolding_all rfl) (hg : ∀ r, letTemporaryGo value (.ref a) r = pure () := by intro _; with_unfolding_all rfl) :
    wpAny (model prog w) A (subscriptTail value slice (.ref a) (.int (-1) u)) Q E s := by
  obtain ⟨t, e⟩ := ints_last hi hne
  have hl : 0 < vs.length := by
    rw [ints_len hi]
    cases ns with
    | nil => exact absurd rfl hne
    | cons _ _ => simp
  refine kim_back (n := n) (l := vs) N hm rfl rfl (by decide) (by omega) (by decide) ?_ (h t) hs hg
  rw [← e]; congr 1; omega
theorem lst {h₀ h : Heap} {L : Addr} {news : Led} {a : Addr} {its : Array Value} {n : Nat} (N : News h₀ L h news) (hm : (a, W.listOf its n) ∈ news) : h.IsList a its := ⟨_, (N _ hm).1, rfl, n, rfl⟩
theorem ints_dropLast {vs : List Value} {ns : List Int} (h : IntsAre vs ns) : IntsAre vs.dropLast ns.dropLast := by
  induction h with
  | nil => exact .nil
  | cons n t h ih =>
    rename_i vs ns
    cases h with
    | nil => exact .nil
    | cons n' t' h' => exact .cons _ _ ih
section
variable {prog : Program} {w : World} {A : Around} {E : Value → Shared → Prop} {s : Shared} {h₀ : Heap} {L l : Addr} {m : Str → Option Value} {news : Led} {value slice : PySem.Expr} {vs : List Value} {ns : List Int} {vl vu : Value} {n : Nat} {Q : Value → Shared → Prop}
theorem slice_back (F : Fr h₀ L s.heap m) (N : News h₀ L s.heap news) (hm : (l, W.listOf (List.toArray vs) n) ∈ news) (pl : IsPart vl none) (pu : IsPart vu (some (-1))) (hi : IntsAre vs ns) (hne : ns ≠ []) (hz : ns.length ≤ 1000)
    (h : ∀ D ws h', Fr h₀ L h' m → News h₀ L h' ((D, W.listOf (List.toArray ws) 0) :: news) → (∀ p ∈ news, p.1 < D) → IntsAre ws ns.dropLast → Q (.ref D) { s with heap := h' })
    (hs : subscripted slice false (.ref l) (.ref s.heap.objs.size) = operate [.ref s.heap.objs.size, .ref l] (getItem (.ref l) (.ref s.heap.objs.size))) (ht : ∀ r, letTemporaryGo value (.ref l) r = pure ()) :
    wpAny (model prog w) A (subscriptTail value slice (.ref l) (.ref s.heap.objs.size)) Q E { s with heap := s.heap.push { cls := .type "slice", data := .fields #[vl, vu, .none] } } := by
  have hl : 0 < vs.length := by
    rw [ints_len hi]
    cases ns with
    | nil => exact absurd rfl hne
    | cons _ _ => simp
  refine kmk_slice_ints (ms := ns.dropLast) (c := ns.dropLast.length) F N (lst N hm) pl pu hi ?_ rfl (fun D ws h' F' N' l1 i _ _ => h D ws h' F' N' l1 i) hs ht (by rw [List.size_toArray, ints_len hi, sizeLine_eq]; omega)
  have e : sliceBounds none (some (-1)) none vs.toArray.size = (((0 : Nat) : Int), ((vs.length - 1 : Nat) : Int), 1) := by
    simp only [sliceBounds, List.size_toArray]
    simp only [Option.getD_none]
    rw [if_pos (by decide : (1 : Int) > 0), if_pos (by decide : (1 : Int) > 0), if_pos (by decide : (-1 : Int) < 0)]
    refine Prod.ext rfl (Prod.ext ?_ rfl)
    dsimp only
    omega
  rw [kmk_pick_nat _ e]
  have e2 : ((vs.toArray.toList.drop 0).take (vs.length - 1 - 0)).toArray.toList = vs.dropLast := by simp [List.dropLast_eq_take]
  rw [e2]
  exact ints_dropLast hi
theorem ne_same {a b : Addr} {us : List Value} {ms : List Int} {n' : Nat} (N : News h₀ L s.heap news) (ha : (a, W.listOf (List.toArray vs) n) ∈ news) (hi : IntsAre vs ns) (hb : (b, W.listOf (List.toArray us) n') ∈ news) (hj : IntsAre us ms) (hu : A.units + 64 < cLine) (e : ns = ms)
    (h : Q (.bool false) s) : wpAny (model prog w) A (compareOp .NotEq (.ref a) (.ref b)) Q E s :=
  ne_intsK (lst N ha) hi (lst N hb) hj hu (by simpa [e] using h)
theorem notin_two {a b k : Int} {ta tb t : Tok} (N : News h₀ L s.heap news) (hm : (l, W.listOf (List.toArray [.int a ta, .int b tb]) n) ∈ news) (hk : k = a ∨ k = b) (h : Q (.bool false) s) :
    wpAny (model prog w) A (compareOp .NotIn (.int k t) (.ref l)) Q E s :=
  notin_list_ints (lst N hm) (.cons a ta (.cons b tb .nil)) (by
    have e : (!([a, b].any (· == k))) = false := by
      rcases hk with rfl | rfl <;> simp
    rw [e]; exact h)
end
/-- a test that comes out False, the frame and the ledger as they stood -/
structure CutF (h₀ : Heap) (L : Addr) (m : Str → Option Value) (news : Led) (s : Shared) (b : Bool) (s₂ : Shared) : Prop where
  no : b = false
  ex : ∃ h' tk, s₂ = { s with heap := h', toks := tk } ∧ Fr h₀ L h' m ∧ News h₀ L h' news
theorem if_cut {M : Model} {A : Around} {E : Value → Shared → Prop} {Q : Flow → Shared → Prop} {s : Shared} {env : Env} {test : PySem.Expr} {body : List Stmt} {pos : Pos} {h₀ : Heap} {L : Addr} {m : Str → Option Value} {news : Led}
    (_F : Fr h₀ L s.heap m) (_N : News h₀ L s.heap news) (ht : wpAny M A (isTrue test env (eval test env)) (CutF h₀ L m news s) E s)
    (h : ∀ h' tk, Fr h₀ L h' m → News h₀ L h' news → Q .next { s with heap := h', toks := tk }) :
    wpAny M A (exec (.If test body [] pos) env) Q E s := by
  refine wpAny_If (wpAny_mono ht (fun b s₂ c => ?_) fun _ _ x => x)
  obtain ⟨rfl, h', tk, rfl, F', N'⟩ := c
  simp only [Bool.false_eq_true, if_false]
  exact wpAny_execs_nil (h h' tk F' N')
theorem fr_tok {h₀ h : Heap} {L : Addr} {m : Str → Option Value} (_F : Fr h₀ L h m) {y : Str} {v : Int} (e : ∃ t, m y = some (.int v t)) : ∃ t, m y = some (.int v t) := e
/-- the way from the root down to a node -/
def wayOf (p d : Nat → Nat) (x : Nat) : List Int := (List.range (d x + 1)).map fun j => ((up p (d x - j) x : Nat) : Int)
theorem way_len {p d : Nat → Nat} {x : Nat} : (wayOf p d x).length = d x + 1 := by unfold wayOf; rw [List.length_map, List.length_range]
theorem way_at {p d : Nat → Nat} {x j : Nat} (h : j ≤ d x) : (wayOf p d x).getD j 0 = ((up p (d x - j) x : Nat) : Int) := by
  unfold wayOf
  rw [List.getD_eq_getElem?_getD, List.getElem?_map, List.getElem?_range (by omega)]
  rfl
/-- no code object -/
def NoCode (o : Obj) : Prop := ∀ vs, o.data = .fields vs → ∀ y t, vs[1]? ≠ some (.str y t)
theorem noCode_seq {o : Obj} {its : Array Value} {n : Nat} (h : o.data = .seq its n) : NoCode o := fun vs hd => by rw [h] at hd; cases hd
theorem noCode_nil : NoCode (tabObj #[]) := fun vs hd y t e => by cases hd; cases e
theorem noCode_tab (a b : Int) (c : Addr) : NoCode (tabObj (#[] ++ #[rawInt a, rawInt b, .ref c])) := fun vs hd y t e => by cases hd; cases e
section
variable {h₀ h : Heap} {L : Addr} {news : Led}
theorem code_off (N : News h₀ L h news) {c y : Addr} {o o' : Obj} {q : Str} (hc : (c, o) ∈ news) (hco : CodeAt c o q) (ht : (y, o') ∈ news) (hn : NoCode o') : c ≠ y := fun e => by
  obtain ⟨vs, t, hd, hv⟩ := hco
  have h1 := congrArg (fun p : Addr × Obj => p.2) (same_obj N hc ht e)
  dsimp only at h1
  rw [h1] at hd
  exact hn vs hd q t hv
end
end

/-! Made -/
section
/-- the table P of the codes of an inner def: cold, warm -/
def TabG (P : Addr) (ln cl : Nat) (q : Str) : Bool → Led → Prop
  | true, news => (P, tabObj #[]) ∈ news
  | false, news => ∃ c o, (P, tabObj (#[] ++ #[rawInt ln, rawInt cl, .ref c])) ∈ news ∧ (c, o) ∈ news ∧ CodeAt c o q
section
variable {M : Model} {A : Around} {E : Value → Shared → Prop} {s : Shared} {h₀ : Heap} {L a c P : Addr} {m mg mb : Str → Option Value} {cn : Str} {cs : Scope} {ccd : Value} {cl : List (Str × Addr)} {news : Led} {p : Program} {loose : List Str} {mean : ExcName → Option Value} {name qual : Str} {params : Arguments} {scope : Scope} {pos : Pos} {firstLine : Nat} {clos : List (Str × Addr)} {Q : Value → Shared → Prop}
theorem upd_head {news : Led} : UpdF P (tabObj #[]) ((P, tabObj #[]) :: keepOff [P] news) (fun o => (P, o) :: keepOff [P] news) :=
  .head fun p hp e => (mem_keepOff.mp hp).2 (by rw [e]; exact List.mem_cons_self ..)
theorem news_tab (N : News h₀ L s.heap news) (h : (P, tabObj #[]) ∈ news) : News h₀ L s.heap ((P, tabObj #[]) :: keepOff [P] news) := fun p hp => by
  rcases List.mem_cons.mp hp with rfl | hp
  · exact N _ h
  · exact N _ (mem_keepOff.mp hp).1
theorem lam_any {body : PySem.Expr} {b : Bool} (F : Fr h₀ L s.heap m) (N : News h₀ L s.heap news) (T : Top p loose mean mg mb h₀) (C : CodeHd h₀ c P) (hcd : ccd = .ref c) (hT : TabG P pos.line pos.col qual b news)
    (hcl : closureFor scope (envX cn cs L a ccd cl) = pure clos)
    (h : ∀ f c' oc ctv h' tk news2, Fr h₀ L h' m → News h₀ L h' ((f, kla_obj name qual params body scope clos ((mg (Str.ofString "__name__")).getD .none) c' ctv) :: news2) → (c', oc) ∈ news2 →
      (P, tabObj (#[] ++ #[rawInt pos.line, rawInt pos.col, .ref c'])) ∈ news2 → CodeAt c' oc qual → (∀ p ∈ news, p.1 ≠ P → p ∈ news2) → (∀ q ∈ news2, q.1 < f) → Q (.ref f) { s with heap := h', toks := tk }) :
    wpAny M A (makeFunction name qual params (.expr body) scope (envX cn cs L a ccd cl) [] [] [] pos firstLine) Q E s := by
  cases b with
  | true =>
    refine kla_nest F (news_tab N hT) T C hcd upd_head trivial rfl hcl fun f c' oc vs t ctv h' tk F' N' hd hv l1 l2 => h f c' oc ctv h' tk ((c', oc) :: (P, _) :: keepOff [P] news) F' N' (List.mem_cons_self ..) (List.mem_cons_of_mem _ (List.mem_cons_self ..)) ⟨vs, t, hd, hv⟩ (fun p hp hn => List.mem_cons_of_mem _ (List.mem_cons_of_mem _ (mem_keepOff.mpr ⟨hp, by simpa using hn⟩))) fun q hq => ?_
    rcases List.mem_cons.mp hq with rfl | hq
    · exact l2
    · rcases List.mem_cons.mp hq with rfl | hq
      · exact Nat.lt_trans (l1 (P, tabObj #[]) (List.mem_cons_self ..)) l2
      · exact Nat.lt_trans (l1 _ (List.mem_cons_of_mem _ hq)) l2
  | false =>
    obtain ⟨c1, o1, m1, m2, ca⟩ := hT
    exact kla_hit F N T C hcd m1 (by simp [TriplesOk, rawInt]) (by simp [codeAmong, rawInt]) hcl fun f ctv h' tk F' N' l1 => h f c1 o1 ctv h' tk news F' N' m2 m1 ca (fun p hp _ => hp) l1
end
theorem TabG.mono {P : Addr} {ln cl : Nat} {q : Str} {b : Bool} {news news' : Led} (h : TabG P ln cl q b news) (hs : ∀ p ∈ news, p ∈ news') : TabG P ln cl q b news' := by
  cases b with
  | true => exact hs _ h
  | false => obtain ⟨c, o, a, b, e⟩ := h; exact ⟨c, o, hs _ a, hs _ b, e⟩
end

/-! Enum -/
section
set_option maxRecDepth 100000
/-- the enumerate object is made, all else as it stood -/
structure EnumMade (h₀ : Heap) (L : Addr) (m : Str → Option Value) (news : Led) (l : Addr) (s : Shared) (xv : Value) (s₁ : Shared) : Prop where
  go : ∃ e it h', xv = .ref e ∧ s₁ = { s with heap := h' } ∧ e ≠ it ∧ IsEnum h' e it 0 .none ∧ h'.IsListIter it l 0 ∧ Fr h₀ L h' m ∧ News h₀ L h' news ∧ h₀.get? e = none ∧ h₀.get? it = none ∧ e ≠ L ∧ it ≠ L ∧ ∀ p ∈ news, p.1 ≠ e ∧ p.1 ≠ it
structure EnumEnd (h₀ : Heap) (L : Addr) (xi xv : Str) (stored : List Str) (m₀ : Str → Option Value) (J : Led → Prop) (own : Led) (s : Shared) (f : Flow) (s₂ : Shared) : Prop where
  next : f = .next
  go : ∃ h' tk m' news' nx, s₂ = { s with heap := h', toks := tk } ∧ Fr h₀ L h' m' ∧ News h₀ L h' news' ∧ (∀ p ∈ nx, p ∈ news') ∧ (∀ p ∈ own, p ∈ news') ∧ (∀ p ∈ nx, ∀ q ∈ own, p.1 ≠ q.1) ∧ (∀ z, z ≠ xi → z ≠ xv → stored.contains z = false → m' z = m₀ z) ∧ J nx
section
variable {prog : Program} {w : World} {A : Around} {E : Value → Shared → Prop} {s : Shared} {env : Env} {h₀ : Heap}
theorem enum_made {l : Addr} {items : Array Value} {n : Nat} {m : Str → Option Value} {news : Led} {L : Addr} {Q : Value → Shared → Prop} (F : Fr h₀ L s.heap m) (N : News h₀ L s.heap news) (hm : (l, W.listOf items n) ∈ news)
    (hQ : ∀ v s', EnumMade h₀ L m news l s v s' → Q v s') :
    wpAny (model prog w) A (call (.type "enumerate") [.ref l]) Q E s := by
  refine call_enumerate_list (lst N hm) fun h' hE hI hsz hk => hQ _ _ ⟨⟨_, _, h', rfl, rfl, Nat.succ_ne_self _, hE, hI, ⟨F.ns.keeps hk, fun b o e => hk b o (F.keep b o e), F.above⟩, fun p hp => ⟨hk _ _ (N p hp).1, (N p hp).2⟩, ?_, ?_, ?_, ?_, ?_⟩⟩
  · exact Heap.get?_none_of_le (Nat.le_trans F.above (Nat.le_succ_of_le (Nat.le_of_lt F.ns.lt)))
  · exact Heap.get?_none_of_le (Nat.le_trans F.above (Nat.le_of_lt F.ns.lt))
  · exact Nat.ne_of_gt (Nat.lt_succ_of_lt F.ns.lt)
  · exact Nat.ne_of_gt F.ns.lt
  · intro p hp
    have := Heap.lt_size (N p hp).1
    exact ⟨Nat.ne_of_lt (Nat.lt_succ_of_lt this), Nat.ne_of_lt this⟩

theorem For_enum {Q : Flow → Shared → Prop} {xi xv : Str} {pi pv pt pos : Pos} {x1} {iter : PySem.Expr} {body : List Stmt} {l : Addr} {items : Array Value} {nn : Nat} {m₀ : Str → Option Value} {news₀ : Led} (stored : List Str) (_F : Fr h₀ env.locals s.heap m₀) (_N : News h₀ env.locals s.heap news₀)
    (hh : A.handled = none) (hxi : env.kindOf xi = some .local) (hxv : env.kindOf xv = some .local)
    (hp : (env.scope.kind == .class || (env.scope.kind == .module && env.locals != env.globals)) = false)
    (J : Nat → Led → Prop) (hl : ∀ i nx, J i nx → (l, W.listOf items nn) ∈ nx)
    (hev : wpAny (model prog w) A (eval iter env) (EnumMade h₀ env.locals m₀ news₀ l s) E s) (h0 : J 0 news₀)
    (turn : ∀ i v nx own h tk ti (u : Str → Option Value), items[i]? = some v → J i nx → (∀ p ∈ nx, ∀ q ∈ own, p.1 ≠ q.1) →
      Fr h₀ env.locals h (fun y => if y = xv then some v else if y = xi then some (.int i ti) else if stored.contains y then u y else m₀ y) → News h₀ env.locals h (nx ++ own) →
      wpAny (model prog w) A (execs body env) (EnumEnd h₀ env.locals xi xv stored m₀ (J (i + 1)) own { s with heap := h, toks := tk }) E { s with heap := h, toks := tk })
    (done : ∀ nx h tk (u : Str → Option Value), J items.size nx → Fr h₀ env.locals h (fun y => if y = xv then u y else if y = xi then u y else if stored.contains y then u y else m₀ y) → News h₀ env.locals h nx → Q .next { s with heap := h, toks := tk })
    (hs : ∀ x, foldedSetIterable iter env x = pure x := by intro _; rfl)
    (hE : PassesOwn (model prog w) A env E := by passes_own) :
    wpAny (model prog w) A (exec (.For (.Tuple [.Name xi pi, .Name xv pv] x1 pt) iter body [] pos) env) Q E s := by
  refine wpAny_For (wpAny_mono hev (fun xval s₁ h₁ => ?_) fun _ _ x => x) hs
  obtain ⟨e, it, h', rfl, rfl, hei, heE, hitE, F, N, he0, hi0, heL, hiL, hap⟩ := h₁.go
  refine wpAny_pyIter_enum heE ?_
  refine codeAny_forLoop_any (R := fun r s' => match r with | .ok f => Q f s' | .error e => cameBackBy (model prog w) A env E e s')
    (fun k s' => ∃ H tk m nx i old, s' = { s with heap := H, toks := tk } ∧ IsEnum H e it ((i : Nat) : Int) old ∧ H.IsListIter it l i ∧ Fr h₀ env.locals H m ∧ News h₀ env.locals H nx ∧ (∀ p ∈ nx, p.1 ≠ e ∧ p.1 ≠ it) ∧
      (∀ z, z ≠ xi → z ≠ xv → stored.contains z = false → m z = m₀ z) ∧ J i nx ∧ i ≤ items.size ∧ k = items.size + 1 - i) ?_ (items.size + 1)
    ⟨h', s.toks, m₀, news₀, 0, .none, rfl, heE, hitE, F, N, hap, fun _ _ _ _ => rfl, h0, Nat.zero_le _, rfl⟩
  rintro k s' ⟨H, tk, m, nx, i, old, rfl, he', hit', F', N', hap', hm', hJ, hi, rfl⟩
  have hl' : H.IsList l items := lst N' (hl i nx hJ)
  have em : m = fun y => if y = xv then m y else if y = xi then m y else if stored.contains y then m y else m₀ y := by
    funext y
    by_cases h1 : y = xv
    · rw [if_pos h1]
    · rw [if_neg h1]
      by_cases h2 : y = xi
      · rw [if_pos h2]
      · rw [if_neg h2]
        cases h3 : stored.contains y with
        | true => simp
        | false => simp only [Bool.false_eq_true, if_false]; exact hm' y h2 h1 h3
  cases hv : items[i]? with
  | none =>
    have hsz : i = items.size := Nat.le_antisymm hi (by simpa using hv)
    refine wpAny_pyNext_enum_end hh he' hit' hl' hv fun h₁ he₁ => wpAny_execs_nil ?_
    have F₁ : Fr h₀ env.locals h₁ m := ⟨F'.ns.extBut he₁ (Ne.symm hiL), fun b o q => he₁ b o (fun c => by rw [c, hi0] at q; cases q) (F'.keep b o q), F'.above⟩
    rw [em] at F₁
    exact done nx h₁ tk m (hsz ▸ hJ) F₁ fun p hp => ⟨he₁ _ _ (hap' p hp).2 (N' p hp).1, (N' p hp).2⟩
  | some v =>
    have hlt : i < items.size := (Array.getElem?_eq_some_iff.mp hv).1
    have heH : e < H.objs.size := Heap.lt_size he'
    have hLH : env.locals < H.objs.size := F'.ns.lt
    obtain ⟨oi, hoi, _⟩ := id hit'
    have hiH : it < H.objs.size := Heap.lt_size hoi
    refine wpAny_pyNext_enum_item he' hit' hl' hv hei fun h₁ heo hit₁ ht₁ hz₁ hk₁ => ?_
    refine wpAny_letOwnedTupleGo_enum heo fun h₂ he₂ hs₂ => ?_
    replace hs₂ : Heap.SameBut e h₁ h₂ := hs₂
    have ht₂ : h₂.IsTuple H.objs.size #[.int i tk, v] := ⟨_, (hs₂.2 _ (Nat.ne_of_gt heH)).trans ht₁, rfl, _, rfl⟩
    have hz₂ : h₂.objs.size = H.objs.size + 1 := hs₂.1.trans hz₁
    refine wpAny_assign_Tuple hh ht₂ rfl rfl fun h₃ hx₃ => ?_
    replace hx₃ : Heap.ExtBut h₂.objs.size h₂ h₃ := hx₃
    have old₃ : ∀ b o, b < H.objs.size → h₂.get? b = some o → h₃.get? b = some o := fun b o hb x => hx₃ b o (by rw [hz₂]; exact Nat.ne_of_lt (Nat.lt_succ_of_lt hb)) x
    have all₃ : ∀ b o, b ≠ e → b ≠ it → H.get? b = some o → h₃.get? b = some o := fun b o hbe hbi x => old₃ b o (Heap.lt_size x) (hs₂.extBut b o hbe (hk₁ b o hbe hbi x))
    have F₃ : Fr h₀ env.locals h₃ m := ⟨(F'.ns.at fun o x => hk₁ _ o (Ne.symm heL) (Ne.symm hiL) x).sameBut hs₂ (Ne.symm heL) |>.at fun o x => old₃ _ o hLH x,
      fun b o q => all₃ b o (fun c => by rw [c, he0] at q; cases q) (fun c => by rw [c, hi0] at q; cases q) (F'.keep b o q), F'.above⟩
    have e₃ : IsEnum h₃ e it (((i : Nat) : Int) + 1) v := old₃ e _ heH he₂
    have i₃ : h₃.IsListIter it l (i + 1) := (hit₁.extBut hs₂.extBut (Ne.symm hei)).at fun o x => old₃ it o hiH x
    obtain ⟨oit, hoit, hoc, hod⟩ := i₃
    have N₃ : News h₀ env.locals h₃ (nx ++ [(e, _), (it, oit)]) := fun p hp => by
      rcases List.mem_append.mp hp with hp | hp
      · exact ⟨all₃ _ _ (hap' p hp).1 (hap' p hp).2 (N' p hp).1, (N' p hp).2⟩
      · simp only [List.mem_cons, List.not_mem_nil, or_false] at hp
        rcases hp with rfl | rfl
        · exact ⟨e₃, heL, he0⟩
        · exact ⟨hoit, hiL, hi0⟩
    show wpAny _ A (do holding [v] (assign (.Name xi pi) env (.int i tk)); do holding [] (assign (.Name xv pv) env v); pure ()) _ _ _
    refine wpAny_bind (wpAny_holding (wpAny_assign_Name (wpAny_storeName_local hxi F₃.ns (fun h₄ hn₄ hs₄ => ?_) hp)))
    replace hs₄ : Heap.SameBut env.locals h₃ h₄ := hs₄
    refine wpAny_bind (wpAny_holding (wpAny_assign_Name (wpAny_storeName_local hxv hn₄ (fun h₅ hn₅ hs₅ => wpAny_pure ?_) hp)))
    replace hs₅ : Heap.SameBut env.locals h₄ h₅ := hs₅
    have F₅ := (F₃.set hn₄ hs₄).set hn₅ hs₅
    have N₅ := (N₃.set hs₄).set hs₅
    have em₅ : (fun y => if y = xv then some v else if y = xi then some (Value.int i tk) else m y) = fun y => if y = xv then some v else if y = xi then some (Value.int i tk) else if stored.contains y then m y else m₀ y := by
      funext y
      by_cases h1 : y = xv
      · rw [if_pos h1, if_pos h1]
      · rw [if_neg h1, if_neg h1]
        by_cases h2 : y = xi
        · rw [if_pos h2, if_pos h2]
        · rw [if_neg h2, if_neg h2]
          cases h3 : stored.contains y with
          | true => simp
          | false => simp only [Bool.false_eq_true, if_false]; exact hm' y h2 h1 h3
    have F₆ : Fr h₀ env.locals h₅ (fun y => if y = xv then some v else if y = xi then some (Value.int i tk) else m y) := F₅
    rw [em₅] at F₆
    refine wpAny_mono (wpAny_passesOwn hE (turn i v nx _ h₅ _ tk m hv hJ ?_ F₆ N₅)) (fun f s₃ h₆ => ?_) fun _ _ x => x
    · intro p hp q hq
      simp only [List.mem_cons, List.not_mem_nil, or_false] at hq
      rcases hq with rfl | rfl
      · exact (hap' p hp).1
      · exact (hap' p hp).2
    obtain ⟨rfl, h₆, tk₆, m₆, news₆, nx₆, rfl, F₇, N₇, hnx, hown, hdis, hm₇, hJ₇⟩ := h₆
    refine ⟨items.size + 1 - (i + 1), by omega, h₆, tk₆, m₆, nx₆, i + 1, v, rfl, ?_, ?_, F₇, fun p hp => N₇ p (hnx p hp), fun p hp => ⟨hdis p hp _ (List.mem_cons_self ..), hdis p hp (it, oit) (List.mem_cons_of_mem _ (List.mem_cons_self ..))⟩, hm₇, hJ₇, hlt, rfl⟩
    · have : ((i + 1 : Nat) : Int) = (i : Int) + 1 := by push_cast; rfl
      rw [this]
      exact (N₇ _ (hown _ (List.mem_cons_self ..))).1
    · exact ⟨oit, (N₇ _ (hown (it, oit) (List.mem_cons_of_mem _ (List.mem_cons_self ..)))).1, hoc, hod⟩
end
end

/-! Range -/
section
set_option maxRecDepth 100000
section
variable {prog : Program} {w : World} {A : Around} {E : Value → Shared → Prop} {s : Shared} {env : Env} {h₀ : Heap}
theorem loop_led {x : Str} {body : List Stmt} {Q : Flow → Shared → Prop} {r : Addr} {a₀ b₀ : Int} {t₀ u₀ v₀ : Tok} {n : Nat} {m₀ : Str → Option Value} {news : Led} (stored : List Str) (J : Nat → Led → Prop)
    (hh : A.handled = none) (hr : IsRange s.heap r a₀ b₀ 1 t₀ u₀ v₀) (hsmall : Builtin.Range.small a₀ b₀ 1 = true) (hn : Builtin.Range.rangeSize a₀ b₀ 1 = (n : Int)) (F : Fr h₀ env.locals s.heap m₀) (N : News h₀ env.locals s.heap news) (h0 : J 0 news)
    (turn : ∀ i nx own h tk t (u : Str → Option Value), i < n → J i nx → (∀ p ∈ nx, ∀ q ∈ own, p.1 ≠ q.1) → (∀ q ∈ own, NoCode q.2) →
      Fr h₀ env.locals h (fun y => if y = x then some (.int (a₀ + (i : Int)) t) else if stored.contains y then u y else m₀ y) → News h₀ env.locals h (nx ++ own) →
      wpAny (model prog w) A (execs body env) (EnumEnd h₀ env.locals x x stored m₀ (J (i + 1)) own { s with heap := h, toks := tk }) E { s with heap := h, toks := tk })
    (done : ∀ nx h tk (u : Str → Option Value), J n nx → Fr h₀ env.locals h (fun y => if y = x then u y else if stored.contains y then u y else m₀ y) → News h₀ env.locals h nx → Q .next { s with heap := h, toks := tk }) :
    wpAny (model prog w) A (pyIter (.ref r)) (fun it s₂ => LoopAtV prog w A h₀ env x body Q E it s₂) E s := by
  refine wpAny_pyIter_range hr hsmall ?_
  have W : Walks prog w A s.heap.objs.size [s.heap.objs.size] [s.heap.objs.size] n (fun i v => i < n ∧ ∃ t, v = .int (a₀ + i * 1) t)
      (fun i h => IsRangeIter h s.heap.objs.size (a₀ + (i : Nat) * 1) ((n : Int) - (i : Nat)) 1) := (Walks.range hh _ a₀ 1 n).bound
  let J' : Nat → (Str → Option Value) → Led → Prop := fun i m nx => (∀ z, z ≠ x → stored.contains z = false → m z = m₀ z) ∧ J i nx
  have hmap : ∀ m : Str → Option Value, (∀ z, z ≠ x → stored.contains z = false → m z = m₀ z) → ∀ f : Str → Option Value, (fun y => if y = x then f y else m y) = fun y => if y = x then f y else if stored.contains y then m y else m₀ y := by
    intro m hm f
    funext y
    by_cases h2 : y = x
    · rw [if_pos h2, if_pos h2]
    · rw [if_neg h2, if_neg h2]
      cases h3 : stored.contains y with
      | true => simp
      | false => simp only [Bool.false_eq_true, if_false]; exact hm y h2 h3
  refine ⟨_, _, _, n, _, _, m₀, news, J', rfl, W, ?_, ?_, ?_, (by show IsRangeIter _ _ _ _ _; rw [hn]; simpa using Heap.get?_push_size _ rfl), F.push _, (fun p hp => ⟨Heap.get?_push_of_some _ (N p hp).1, (N p hp).2⟩), ⟨fun _ _ _ => rfl, h0⟩, ?_, ?_⟩
  · intro hm
    exact absurd F.ns.lt ((List.mem_singleton.mp hm) ▸ Nat.lt_irrefl _)
  · intro b hb
    rw [List.mem_singleton.mp hb]
    exact next_is_new F
  · intro p hp hI
    exact absurd (Heap.lt_size (N p hp).1) ((List.mem_singleton.mp hI) ▸ Nat.lt_irrefl _)
  · rintro i v m₁ news₁ s₁ own ⟨hh', tk', rfl⟩ hin ⟨_, t, rfl⟩ ⟨hm, hJ⟩ hoff hown hget hall hst F₁ N₁
    have e1 : a₀ + (i : Int) * 1 = a₀ + (i : Int) := by omega
    rw [e1, hmap m₁ hm fun _ => some (.int (a₀ + (i : Int)) t)] at F₁
    have N₂ : News h₀ env.locals hh' (news₁ ++ own) := fun p hp => N₁ p ((List.mem_append.mp hp).elim (fun h => List.mem_append.mpr (.inr h)) fun h => List.mem_append.mpr (.inl h))
    have hI := hall s.heap.objs.size (List.mem_singleton.mpr rfl) (next_is_new F) _ hst
    refine wpAny_mono (turn i news₁ own hh' tk' t m₁ hin hJ (fun p hp q hq e => hoff p hp (e ▸ hown q hq)) (fun q hq => ?_) F₁ N₂) (fun f s₂ p => ?_) fun _ _ e => e
    · have h1 := hget q hq
      have h2 : hh'.get? s.heap.objs.size = _ := hst
      rw [List.mem_singleton.mp (hown q hq), h2] at h1
      rw [← Option.some.inj h1]
      intro vs hd y t e
      cases hd
      cases e
    obtain ⟨rfl, h', tk, m', news', nx, rfl, F', N', hn', ho', hd', hm', hJ'⟩ := p
    refine .next ⟨rfl, h', tk, m', nx, rfl, F', fun p hp => N' p ((List.mem_append.mp hp).elim (ho' p) (hn' p)), fun p hp hq => ?_, fun z h1 h2 => hm' z h1 h1 h2, hJ'⟩
    exact hd' p hp _ hI (List.mem_singleton.mp hq)
  · rintro h' tk m' news' F' N' _ ⟨hm, hJ⟩
    have e2 : m' = fun y => if y = x then m' y else m' y := by funext y; simp
    rw [e2, hmap m' hm m'] at F'
    exact done news' h' tk m' hJ F' N'
end
end
section
set_option rowWalk.seconds 0
local macro_rules | `(tactic| walk_at "exec While Call cons nil") => `(tactic| refine stopped ?_)
local macro_rules | `(tactic| walk_at "exec While Name cons nil") => `(tactic| refine stopped ?_)
local macro_rules | `(tactic| walk_at "exec While Subscript cons nil") => `(tactic| refine stopped ?_)
local macro_rules | `(tactic| walk_at "exec For Tuple Call cons nil") => `(tactic| refine stopped ?_)
local macro_rules | `(tactic| walk_at "call builtin:int.bit_length") => `(tactic| first | refine bits_1 (by omega) (by omega) ?_ | refine bits_2 (by omega) (by omega) ?_ | refine bits_3 (by omega) (by omega) ?_ | refine bits_4 (by omega) (by omega) ?_ | refine bits_0 (by omega) ?_)
local macro_rules | `(tactic| walk_at "KswEnd") => `(tactic| refine stopped ?_)
local macro_rules | `(tactic| tb_turn $t:term) => `(tactic| (refine' code_def (binds := $t) ?k1 ?k2 ?k3 ?k4 ?k5 ?kA ?kF ?kK ?k6 ?k7 ?k8 ?k9 ?kB ?_ ?c2 ?c3 ?c4 ?c5; (case kA => exact rfl); (case kF => exact rfl); (case kK => assumption); (case k1 => k_asm); (case k2 => k_asm); (case k3 => k_asm); (case k4 => k_asm); (case k5 => k_asm); (case k6 => k_is); (case k7 => k_is); (case k8 => ktr_room); (case k9 => exact BindsTo.of_eq rfl); (case c5 => decide); (case kB => exact locs rfl); (case c2 => exact rfl); (case c3 => exact rfl); (case c4 => exact rfl); k_whole))
local macro_rules | `(tactic| walk_at "callWith ref") => `(tactic| (k_here; k_dflt (first | (refine' callWith_K ?k1 ?k2 ?_; (case k1 => k_asm); (case k2 => k_is); k_whole) | (refine' callWith_K0 ?k1 ?k2 ?_; (case k1 => k_in); (case k2 => k_is); k_whole))))
local macro_rules | `(tactic| walk_at "eval Name") => `(tactic| (k_here; k_dflt (first | (refine' nameX_L ?F ?v ?_ ?a ?b; (case F => k_asm); (case a => rfl); (case b => rfl); (case v => rfl); k_whole) | (refine' nameX_K ?F ?X ?T ?e ?_ ?a ?b; (case F => k_asm); (case X => k_asm); (case T => k_asm); (case a => rfl); (case b => rfl); (case e => k_is); k_whole) | (refine' nameX_C ?N ?c ?m ?d ?_ ?a ?b; (case a => rfl); (case b => rfl); (case N => k_asm); (case c => rfl); (case m => k_mem); (case d => k_asm); k_whole))))
local macro_rules | `(tactic| walk_at "ite") => `(tactic| first | (refine ite_no (by simp only [beq_iff_eq, bne_iff_ne, decide_eq_true_eq, ne_eq, Bool.not_eq_true', decide_eq_false_iff_not, Bool.not_eq_true, beq_eq_false_iff_ne]; omega) ?_) | (refine ite_yes (by simp only [beq_iff_eq, bne_iff_ne, decide_eq_true_eq, ne_eq, Bool.not_eq_true', decide_eq_false_iff_not, Bool.not_eq_true, beq_eq_false_iff_ne]; omega) ?_))
section
set_option rowWalk.seconds 0
local macro_rules | `(tactic| walk_at "binaryOp Add int int") => `(tactic| first | (refine add_v _ (by with_reducible assumption) ?_) | (refine add_v 0 (by decide) ?_) | (refine add_v 1 (by decide) ?_) | (refine add_v 2 (by decide) ?_) | (refine add_v 3 (by decide) ?_) | (refine add_v 4 (by decide) ?_) | (refine add_v 5 (by decide) ?_))
local macro_rules | `(tactic| walk_at "binaryOp Sub int int") => `(tactic| first | (refine sub_v _ (by with_reducible assumption) ?_) | (refine sub_v 0 (by decide) ?_) | (refine sub_v 1 (by decide) ?_) | (refine sub_v 2 (by decide) ?_) | (refine sub_v 3 (by decide) ?_) | (refine sub_v 4 (by decide) ?_) | (refine sub_v 5 (by decide) ?_))
local macro_rules | `(tactic| walk_at "binaryOp LShift int int") => `(tactic| first | (refine shl_v _ (by omega) (by omega) (by omega) (by with_reducible assumption) ?_) | (refine shl_v 0 (by decide) (by decide) (by decide) (by decide) ?_) | (refine shl_v 1 (by decide) (by decide) (by decide) (by decide) ?_) | (refine shl_v 2 (by decide) (by decide) (by decide) (by decide) ?_) | (refine shl_v 3 (by decide) (by decide) (by decide) (by decide) ?_) | (refine shl_v 4 (by decide) (by decide) (by decide) (by decide) ?_) | (refine shl_v 5 (by decide) (by decide) (by decide) (by decide) ?_))
local macro_rules | `(tactic| walk_at "call builtin:int.bit_length") => `(tactic| first | (refine bits_v _ (by with_reducible assumption) ?_) | refine bits_1 (by decide) (by decide) ?_)
section
set_option rowWalk.seconds 0
local macro_rules | `(tactic| walk_at "binaryOp Mult int int") => `(tactic| first | (refine mul_v _ (by with_reducible assumption) (by with_reducible assumption) ?_) | (refine mul_v 0 (by decide) (by mul_fits) ?_) | (refine mul_v 1 (by decide) (by mul_fits) ?_) | (refine mul_v 2 (by decide) (by mul_fits) ?_) | (refine mul_v 3 (by decide) (by mul_fits) ?_) | (refine mul_v 4 (by decide) (by mul_fits) ?_) | (refine mul_v 5 (by decide) (by mul_fits) ?_))
local macro_rules | `(tactic| walk_at "binaryOp RShift int int") => `(tactic| first | (refine shr_v _ (by omega) (by with_reducible assumption) ?_) | (refine shr_v 0 (by decide) (by decide) ?_) | (refine shr_v 1 (by decide) (by decide) ?_) | (refine shr_v 2 (by decide) (by decide) ?_) | (refine shr_v 3 (by decide) (by decide) ?_))
local macro_rules | `(tactic| walk_at "binaryOp BitXor int int") => `(tactic| (refine xor_v _ (by with_reducible assumption) ?_))
local macro_rules | `(tactic| walk_at "binaryOp FloorDiv int int") => `(tactic| (refine fdiv_v _ (by omega) (PyProof.noPylong_small (by omega)) (by with_reducible assumption) ?_))
local macro_rules | `(tactic| walk_at "call builtin:divmod") => `(tactic| (k_here; (rename Fr _ _ _ _ => dF'); (rename News _ _ _ _ => dN'); (refine divmod_v _ _ dF' dN' (by omega) (PyProof.noPylong_small (by omega)) (by with_reducible assumption) (by with_reducible assumption) ?_); (try clear dF' dN'); intro q' h' t1' t2' tk' F' N' l1; (try k_lt l1)))
section
set_option rowWalk.seconds 0
local macro_rules | `(tactic| tb_from $t:term) => `(tactic| (refine' code_defC (binds := $t) ?k1 ?k2 ?k3 ?k4 ?k5 ?kA ?kF ?kK ?k6 ?k7 ?k8 ?k9 ?kB ?kD ?_ ?c2 ?c3 ?c4; (case kA => exact rfl); (case kF => exact rfl); (case kK => assumption); (case k1 => k_asm); (case k2 => k_asm); (case k3 => k_asm); (case k4 => k_asm); (case k5 => k_asm); (case k6 => k_is); (case k7 => k_is); (case k8 => ktr_room); (case k9 => exact BindsTo.of_eq rfl); (case kB => exact rfl); (case kD => decide +kernel); (case c2 => exact rfl); (case c3 => exact rfl); (case c4 => exact rfl); k_whole))
local macro_rules | `(tactic| k_mem) => `(tactic| (refine mem_as ?_; ktr_member))

/-! Div1 -/
section
set_option rowWalk.seconds 0
/-- the table of the inner def of _int2digits, of _digits2int: cold, warm -/
def Tab1 : Bool → Led → Prop
  | true, news => (39, tabObj #[]) ∈ news
  | false, news => ∃ c o, (39, tab 53 c) ∈ news ∧ (c, o) ∈ news ∧ CodeAt c o q1
def Tab2 : Bool → Led → Prop
  | true, news => (46, tabObj #[]) ∈ news
  | false, news => ∃ c o, (46, tab 68 c) ∈ news ∧ (c, o) ∈ news ∧ CodeAt c o q2
theorem Tabs.one {c : Bool} {news : Led} (h : Tabs c news) : Tab1 c news := by
  cases c with
  | true => exact h.1
  | false => obtain ⟨c1, o1, c2, o2, a, b, c, d, e, f⟩ := h; exact ⟨c1, o1, a, c, e⟩
theorem Tabs.two {c : Bool} {news : Led} (h : Tabs c news) : Tab2 c news := by
  cases c with
  | true => exact h.2
  | false => obtain ⟨c1, o1, c2, o2, a, b, c, d, e, f⟩ := h; exact ⟨c2, o2, b, d, f⟩
theorem Tabs.of {news : Led} (h1 : Tab1 false news) (h2 : Tab2 false news) : Tabs false news := by
  obtain ⟨c1, o1, a, c, e⟩ := h1
  obtain ⟨c2, o2, b, d, f⟩ := h2
  exact ⟨c1, o1, c2, o2, a, b, c, d, e, f⟩
def Int2Post (ds : List Int) (news : Led) (r : Value) (news' : Led) : Prop :=
  ∃ l vs n, r = .ref l ∧ (l, W.listOf (List.toArray vs) n) ∈ news' ∧ IntsAre vs ds ∧ Tab1 false news' ∧ ∀ p ∈ news, p.1 ≠ 39 → p ∈ news'
def Dig2Post (v : Int) (news : Led) (r : Value) (news' : Led) : Prop :=
  ∃ t, r = .int v t ∧ Tab2 false news' ∧ ∀ p ∈ news, p.1 ≠ 46 → p ∈ news'
def DmPost (x y : Int) (news : Led) (r : Value) (news' : Led) : Prop :=
  ∃ q t1 t2, r = .ref q ∧ news' = (q, tupOf #[.int x t1, .int y t2]) :: news ∧ ∀ p ∈ news, p.1 < q
theorem off_cells {rest : Led} {x L : Addr} (ho : OwnOff rest [x]) (hl : ∀ p ∈ rest, p.1 < L) : OwnOff rest [x, L + 1, L + 2, L + 3] := fun p hp b hb => by
  have hlt := hl p hp
  simp only [List.mem_cons, List.not_mem_nil, or_false] at hb
  rcases hb with rfl | rfl | rfl | rfl
  · exact ho p hp _ (by simp)
  · exact Nat.ne_of_lt (Nat.lt_succ_of_lt hlt)
  · exact Nat.ne_of_lt (Nat.lt_succ_of_lt (Nat.lt_succ_of_lt hlt))
  · exact Nat.ne_of_lt (Nat.lt_succ_of_lt (Nat.lt_succ_of_lt (Nat.lt_succ_of_lt hlt)))
/-- an entry with a list is no table -/
theorem seq_off {h₀ h : Heap} {L : Addr} {news : Led} (N : News h₀ L h news) {x : Addr} {ps : Array Value} (ht : (x, tabObj ps) ∈ news) {p : Addr × Obj} (hp : p ∈ news) {its : Array Value} {n : Nat} (hs : p.2.data = .seq its n) : p.1 ≠ x := fun e => by
  have h1 := congrArg (fun p : Addr × Obj => p.2.data) (same_obj N hp ht e)
  dsimp only at h1
  rw [hs] at h1
  cases h1
theorem Tab1.at {c : Bool} {news : Led} (hT : Tab1 c news) : ∃ o, (39, o) ∈ news ∧ NoCode o := by
  cases c with
  | true => exact ⟨_, hT, noCode_nil⟩
  | false => obtain ⟨c1, o1, a, _⟩ := hT; exact ⟨_, a, noCode_tab _ _ _⟩
theorem Tab2.at {c : Bool} {news : Led} (hT : Tab2 c news) : ∃ o, (46, o) ∈ news ∧ NoCode o := by
  cases c with
  | true => exact ⟨_, hT, noCode_nil⟩
  | false => obtain ⟨c1, o1, a, _⟩ := hT; exact ⟨_, a, noCode_tab _ _ _⟩
section
set_option maxRecDepth 100000 in
set_option maxHeartbeats 8000000 in
theorem c_div2n1n {w : World} {un : Nat} {news : Led} {a b n h1 d x y : Int} {t1 t2 t3 : Tok} (ha0 : 0 ≤ a) (ha1 : a ≤ 1000) (hb0 : 1 ≤ b) (hb1 : b ≤ 7) (hn0 : 1 ≤ n) (hn1 : n ≤ 3)
    (hh : ((Builtin.Int.intBits a : Nat) : Int) = h1) (hh1 : h1 ≤ 10) (e1 : h1 - n = d) (e2 : a.fdiv b = x) (e3 : a.fmod b = y) :
    Ctr w 30 [.int a t1, .int b t2, .int n t3] 306 un news (DmPost x y news) := by
  w_top off
  unfold Ctr Prg; k_fill
  intro gd cn cs ad ccd cl outer A₀ base h₀ L0 m s Q E pg loose mean mg mb B F X N TT hk k1 k2 k3 hret
  refine wpAny_call ?_
  k_dflt (tb_turn [(Str.ofString "a", .int a t1), (Str.ofString "b", .int b t2), (Str.ofString "n", .int n t3)])
  intro g' L' h' FG' F' N' B' X' T'
  dsimp only
  try k_fold
  k_steps
  rename Fr h₀ L0 _ m => kF
  rename News h₀ L0 _ _ => kN
  exact hret _ _ _ _ kF kN ⟨_, _, _, rfl, rfl, by assumption⟩
set_option maxRecDepth 100000 in
set_option maxHeartbeats 8000000 in
theorem c_int2_1 {w : World} {un : Nat} {c : Bool} {news : Led} {a n n2 n3 : Int} {t1 t2 : Tok} (hc : Tab1 c news)
    (ha0 : 1 ≤ a) (ha1 : a ≤ 7) (hn0 : 1 ≤ n) (hn1 : n ≤ 3) (hb : ((Builtin.Int.intBits a : Nat) : Int) = n) (e1 : n + n = n2) (e2 : n2 - 1 = n3) (e3 : n3.fdiv n = 1) :
    Ctr w 44 [.int a t1, .int n t2] 306 un news (Int2Post [a] news) := by
  w_top off
  unfold Ctr Prg; k_fill
  intro gd cn cs ad ccd cl outer A₀ base h₀ L0 m s Q E pg loose mean mg mb B F X N TT hk k1 k2 k3 hret
  have hks : ∀ p ∈ news, p.1 ≠ 39 → p ∈ keepOff [39] news := fun p hp hn => mem_keepOff.mpr ⟨hp, by simpa using hn⟩
  have ho : OwnOff (keepOff [39] news) [39] := fun p hp b hb e => (mem_keepOff.mp hp).2 (by rw [e]; exact hb)
  have hkeep : ∀ p ∈ keepOff [39] news, p ∈ news := fun p hp => (mem_keepOff.mp hp).1
  have hN := own_news N (own := keepOff [39] news) hkeep
  generalize keepOff [39] news = rest at *
  cases c with
  | true =>
    have N1 : News h₀ L0 s.heap ((39, tabObj #[]) :: rest) := fun p hp => by
      rcases List.mem_cons.mp hp with rfl | hp
      · exact N _ hc
      · exact hN p hp
    clear N hN
    refine wpAny_call ?_
    k_dflt (tb_from [(Str.ofString "a", .int a t1), (Str.ofString "n", .int n t2)])
    intro g' L' h' tk' cells' FG' F' N' Y' B' X' T' l1
    k_lt l1
    k_cells Y'
    simp only [List.cons_append, List.nil_append] at N'
    dsimp only
    have hof := off_cells ho (allLt_mem l1.2)
    try k_fold
    k_steps
    rename Fr h₀ L0 _ m => kF
    rename News h₀ L0 _ _ => kN
    refine hret _ _ _ _ kF kN ⟨_, _, _, rfl, by k_mem, IntsAre.cons _ _ IntsAre.nil, ⟨_, _, by k_mem, by k_mem, ⟨_, _, by assumption, by assumption⟩⟩, fun p hp hn => ?_⟩
    have := hks p hp hn
    simp [this]
  | false =>
    obtain ⟨c1, o1, m1, m2, ⟨vs1, tv1, d1, d1'⟩⟩ := hc
    have N1 : News h₀ L0 s.heap ((39, tabObj (#[] ++ #[rawInt 53, rawInt 4, .ref c1])) :: (c1, o1) :: rest) := fun p hp => by
      rcases List.mem_cons.mp hp with rfl | hp
      · exact N _ m1
      · rcases List.mem_cons.mp hp with rfl | hp
        · exact N _ m2
        · exact hN p hp
    clear N hN m1 m2
    refine wpAny_call ?_
    k_dflt (tb_from [(Str.ofString "a", .int a t1), (Str.ofString "n", .int n t2)])
    intro g' L' h' tk' cells' FG' F' N' Y' B' X' T' l1
    k_lt l1
    k_cells Y'
    simp only [List.cons_append, List.nil_append] at N'
    dsimp only
    have hof := off_cells ho (allLt_mem l1.2.2)
    try k_fold
    k_steps
    rename Fr h₀ L0 _ m => kF
    rename News h₀ L0 _ _ => kN
    refine hret _ _ _ _ kF kN ⟨_, _, _, rfl, by k_mem, IntsAre.cons _ _ IntsAre.nil, ⟨c1, o1, by k_mem, by k_mem, ⟨vs1, tv1, d1, d1'⟩⟩, fun p hp hn => ?_⟩
    have := hks p hp hn
    simp [this]
set_option maxRecDepth 100000 in
set_option maxHeartbeats 8000000 in
theorem c_int2_2 {w : World} {un : Nat} {news : Led} {a n n1 s1 s2 p lo : Int} {t1 t2 : Tok} (hc : Tab1 false news)
    (ha0 : 1 ≤ a) (ha1 : a ≤ 14) (hn0 : 1 ≤ n) (hn1 : n ≤ 3) (hba : ((Builtin.Int.intBits a : Nat) : Int) = n1) (e1 : n1 + n = s1) (e2 : s1 - 1 = s2) (e3 : s2.fdiv n = 2) (e4 : 1 * n = n) (hm : IntMulOk 1 n)
    (e5 : a.fdiv (2 ^ n.toNat) = 1) (e6 : 1 * 2 ^ n.toNat = p) (e7 : Builtin.bitXor a p = lo) :
    Ctr w 44 [.int a t1, .int n t2] 306 un news (Int2Post [lo, 1] news) := by
  w_top off
  unfold Ctr Prg; k_fill
  intro gd cn cs ad ccd cl outer A₀ base h₀ L0 m s Q E pg loose mean mg mb B F X N TT hk k1 k2 k3 hret
  have hks : ∀ p ∈ news, p.1 ≠ 39 → p ∈ keepOff [39] news := fun p hp hn => mem_keepOff.mpr ⟨hp, by simpa using hn⟩
  have ho : OwnOff (keepOff [39] news) [39] := fun p hp b hb e => (mem_keepOff.mp hp).2 (by rw [e]; exact hb)
  have hkeep : ∀ p ∈ keepOff [39] news, p ∈ news := fun p hp => (mem_keepOff.mp hp).1
  have hN := own_news N (own := keepOff [39] news) hkeep
  generalize keepOff [39] news = rest at *
  obtain ⟨c1, o1, m1, m2, ⟨vs1, tv1, d1, d1'⟩⟩ := hc
  have N1 : News h₀ L0 s.heap ((39, tabObj (#[] ++ #[rawInt 53, rawInt 4, .ref c1])) :: (c1, o1) :: rest) := fun p hp => by
    rcases List.mem_cons.mp hp with rfl | hp
    · exact N _ m1
    · rcases List.mem_cons.mp hp with rfl | hp
      · exact N _ m2
      · exact hN p hp
  clear N hN m1 m2
  refine wpAny_call ?_
  k_dflt (tb_from [(Str.ofString "a", .int a t1), (Str.ofString "n", .int n t2)])
  intro g' L' h' tk' cells' FG' F' N' Y' B' X' T' l1
  k_lt l1
  k_cells Y'
  simp only [List.cons_append, List.nil_append] at N'
  dsimp only
  have hof := off_cells ho (allLt_mem l1.2.2)
  try k_fold
  k_steps
  rename Fr h₀ L0 _ m => kF
  rename News h₀ L0 _ _ => kN
  refine hret _ _ _ _ kF kN ⟨_, _, _, rfl, by k_mem, IntsAre.cons _ _ (IntsAre.cons _ _ IntsAre.nil), ⟨c1, o1, by k_mem, by k_mem, ⟨vs1, tv1, d1, d1'⟩⟩, fun p hp hn => ?_⟩
  have := hks p hp hn
  simp [this]
set_option maxRecDepth 100000 in
set_option maxHeartbeats 8000000 in
theorem c_dig2_1 {w : World} {un : Nat} {c : Bool} {news : Led} {l : Addr} {k : Nat} {v n : Int} {tv t2 : Tok} (hc : Tab2 c news) (ml : (l, W.listOf (List.toArray [.int v tv]) k) ∈ news) :
    Ctr w 51 [.ref l, .int n t2] 306 un news (Dig2Post v news) := by
  w_top off
  unfold Ctr Prg; k_fill
  intro gd cn cs ad ccd cl outer A₀ base h₀ L0 m s Q E pg loose mean mg mb B F X N TT hk k1 k2 k3 hret
  have hks : ∀ p ∈ news, p.1 ≠ 46 → p ∈ keepOff [46] news := fun p hp hn => mem_keepOff.mpr ⟨hp, by simpa using hn⟩
  have ho : OwnOff (keepOff [46] news) [46] := fun p hp b hb e => (mem_keepOff.mp hp).2 (by rw [e]; exact hb)
  have hkeep : ∀ p ∈ keepOff [46] news, p ∈ news := fun p hp => (mem_keepOff.mp hp).1
  have hN := own_news N (own := keepOff [46] news) hkeep
  have hml : l ≠ 46 := by
    have h1 : ∃ ps, (46, tabObj ps) ∈ news := by
      cases c with
      | true => exact ⟨_, hc⟩
      | false => obtain ⟨_, _, h, _⟩ := hc; exact ⟨_, h⟩
    obtain ⟨ps, h1⟩ := h1
    exact seq_off N h1 ml rfl
  replace ml := hks _ ml hml
  generalize keepOff [46] news = rest at *
  cases c with
  | true =>
    have N1 : News h₀ L0 s.heap ((46, tabObj #[]) :: (l, W.listOf (List.toArray [.int v tv]) k) :: rest) := fun p hp => by
      rcases List.mem_cons.mp hp with rfl | hp
      · exact N _ hc
      · exact (List.mem_cons.mp hp).elim (fun e => by rw [e]; exact hN _ ml) (hN p)
    clear N hN
    refine wpAny_call ?_
    k_dflt (tb_from [(Str.ofString "digits", .ref l), (Str.ofString "n", .int n t2)])
    intro g' L' h' tk' cells' FG' F' N' Y' B' X' T' l1
    k_lt l1
    k_cells Y'
    simp only [List.cons_append, List.nil_append] at N'
    dsimp only
    have hof := off_cells ho (allLt_mem l1.2.2)
    try k_fold
    k_steps
    rename Fr h₀ L0 _ m => kF
    rename News h₀ L0 _ _ => kN
    refine hret _ _ _ _ kF kN ⟨_, rfl, ⟨_, _, by k_mem, by k_mem, ⟨_, _, by assumption, by assumption⟩⟩, fun p hp hn => ?_⟩
    have := hks p hp hn
    simp [this]
  | false =>
    obtain ⟨c1, o1, m1, m2, ⟨vs1, tv1, d1, d1'⟩⟩ := hc
    have N1 : News h₀ L0 s.heap ((46, tabObj (#[] ++ #[rawInt 68, rawInt 4, .ref c1])) :: (c1, o1) :: (l, W.listOf (List.toArray [.int v tv]) k) :: rest) := fun p hp => by
      rcases List.mem_cons.mp hp with rfl | hp
      · exact N _ m1
      · rcases List.mem_cons.mp hp with rfl | hp
        · exact N _ m2
        · exact (List.mem_cons.mp hp).elim (fun e => by rw [e]; exact hN _ ml) (hN p)
    clear N hN m1 m2
    refine wpAny_call ?_
    k_dflt (tb_from [(Str.ofString "digits", .ref l), (Str.ofString "n", .int n t2)])
    intro g' L' h' tk' cells' FG' F' N' Y' B' X' T' l1
    k_lt l1
    k_cells Y'
    simp only [List.cons_append, List.nil_append] at N'
    dsimp only
    have hof := off_cells ho (allLt_mem l1.2.2.2)
    try k_fold
    k_steps
    rename Fr h₀ L0 _ m => kF
    rename News h₀ L0 _ _ => kN
    refine hret _ _ _ _ kF kN ⟨_, rfl, ⟨c1, o1, by k_mem, by k_mem, ⟨vs1, tv1, d1, d1'⟩⟩, fun p hp hn => ?_⟩
    have := hks p hp hn
    simp [this]
set_option maxRecDepth 100000 in
set_option maxHeartbeats 8000000 in
theorem c_dig2_2 {w : World} {un : Nat} {news : Led} {l : Addr} {k : Nat} {x0 x1 n y q : Int} {tv tu t2 : Tok} (hc : Tab2 false news) (ml : (l, W.listOf (List.toArray [.int x0 tv, .int x1 tu]) k) ∈ news)
    (hn0 : 1 ≤ n) (hn1 : n ≤ 3) (e4 : 1 * n = n) (hm : IntMulOk 1 n) (hx0 : 0 ≤ [x0, x1].getD (Int.toNat 1) 0) (hx1 : [x0, x1].getD (Int.toNat 1) 0 ≤ 7) (e18 : [x0, x1].getD (Int.toNat 1) 0 * 2 ^ n.toNat = y) (e19 : y + [x0, x1].getD (Int.toNat 0) 0 = q) :
    Ctr w 51 [.ref l, .int n t2] 306 un news (Dig2Post q news) := by
  w_top off
  unfold Ctr Prg; k_fill
  intro gd cn cs ad ccd cl outer A₀ base h₀ L0 m s Q E pg loose mean mg mb B F X N TT hk k1 k2 k3 hret
  have hks : ∀ p ∈ news, p.1 ≠ 46 → p ∈ keepOff [46] news := fun p hp hn => mem_keepOff.mpr ⟨hp, by simpa using hn⟩
  have ho : OwnOff (keepOff [46] news) [46] := fun p hp b hb e => (mem_keepOff.mp hp).2 (by rw [e]; exact hb)
  have hkeep : ∀ p ∈ keepOff [46] news, p ∈ news := fun p hp => (mem_keepOff.mp hp).1
  have hN := own_news N (own := keepOff [46] news) hkeep
  have hml : l ≠ 46 := by
    have h1 : ∃ ps, (46, tabObj ps) ∈ news := by
      obtain ⟨_, _, h, _⟩ := hc; exact ⟨_, h⟩
    obtain ⟨ps, h1⟩ := h1
    exact seq_off N h1 ml rfl
  replace ml := hks _ ml hml
  generalize keepOff [46] news = rest at *
  obtain ⟨c1, o1, m1, m2, ⟨vs1, tv1, d1, d1'⟩⟩ := hc
  have N1 : News h₀ L0 s.heap ((46, tabObj (#[] ++ #[rawInt 68, rawInt 4, .ref c1])) :: (c1, o1) :: (l, W.listOf (List.toArray [.int x0 tv, .int x1 tu]) k) :: rest) := fun p hp => by
    rcases List.mem_cons.mp hp with rfl | hp
    · exact N _ m1
    · rcases List.mem_cons.mp hp with rfl | hp
      · exact N _ m2
      · exact (List.mem_cons.mp hp).elim (fun e => by rw [e]; exact hN _ ml) (hN p)
  clear N hN m1 m2
  refine wpAny_call ?_
  k_dflt (tb_from [(Str.ofString "digits", .ref l), (Str.ofString "n", .int n t2)])
  intro g' L' h' tk' cells' FG' F' N' Y' B' X' T' l1
  k_lt l1
  k_cells Y'
  simp only [List.cons_append, List.nil_append] at N'
  dsimp only
  have hof := off_cells ho (allLt_mem l1.2.2.2)
  try k_fold
  k_steps
  rename Fr h₀ L0 _ m => kF
  rename News h₀ L0 _ _ => kN
  refine hret _ _ _ _ kF kN ⟨_, rfl, ⟨c1, o1, by k_mem, by k_mem, ⟨vs1, tv1, d1, d1'⟩⟩, fun p hp hn => ?_⟩
  have := hks p hp hn
  simp [this]
end
end
end
section
set_option rowWalk.seconds 0
local macro_rules | `(tactic| tb_from $t:term $r:term) => `(tactic| (refine' code_defR (own := $t) (rest := $r) ?k1 ?k2 ?k3 ?k4 ?kr ?k5 ?kA ?kF ?kK ?k6 ?k7 ?k8 ?k9 ?kB ?_ ?c2 ?c3 ?c4 ?c5; (case kA => exact rfl); (case kF => exact rfl); (case kK => assumption); (case k1 => k_asm); (case k2 => k_asm); (case k3 => k_asm); (case k4 => k_asm); (case kr => assumption); (case k5 => k_asm); (case k6 => k_is); (case k7 => k_is); (case k8 => ktr_room); (case k9 => exact BindsTo.of_eq rfl); (case c5 => decide); (case kB => exact locs rfl); (case c2 => exact rfl); (case c3 => exact rfl); (case c4 => exact rfl); k_whole))
local macro_rules | `(tactic| walk_at "call ref") => `(tactic| first | ((with_reducible show wpAny _ _ (call (Value.ref 44) _) _ _ _); refine stopped ?_) | ((with_reducible show wpAny _ _ (call (Value.ref 30) _) _ _ _); refine stopped ?_) | ((with_reducible show wpAny _ _ (call (Value.ref 51) _) _ _ _); refine stopped ?_) | ((with_reducible show wpAny _ _ (call (Value.ref 58) _) _ _ _); refine stopped ?_))

/-! Div2 -/
section
set_option rowWalk.seconds 0
section
variable {h₀ h : Heap} {L : Addr} {news news' : Led}
theorem Tab2.step {c : Bool} (hT : Tab2 c news) (N : News h₀ L h news) (ht : ∃ o, (39, o) ∈ news ∧ NoCode o) (hk : ∀ p ∈ news, p.1 ≠ 39 → p ∈ news') : Tab2 c news' := by
  cases c with
  | true => exact hk _ hT (by decide)
  | false =>
    obtain ⟨c1, o1, a, b, e⟩ := hT
    obtain ⟨o, ho, hn⟩ := ht
    exact ⟨c1, o1, hk _ a (fun e => absurd e (by simp)), hk _ b (code_off N b e ho hn), e⟩
theorem Tab1.step {c : Bool} (hT : Tab1 c news) (N : News h₀ L h news) (ht : ∃ o, (46, o) ∈ news ∧ NoCode o) (hk : ∀ p ∈ news, p.1 ≠ 46 → p ∈ news') : Tab1 c news' := by
  cases c with
  | true => exact hk _ hT (by decide)
  | false =>
    obtain ⟨c1, o1, a, b, e⟩ := hT
    obtain ⟨o, ho, hn⟩ := ht
    exact ⟨c1, o1, hk _ a (fun e => absurd e (by simp)), hk _ b (code_off N b e ho hn), e⟩
theorem Tab1.mono {c : Bool} (hT : Tab1 c news) (hs : ∀ p ∈ news, p ∈ news') : Tab1 c news' := by
  cases c with
  | true => exact hs _ hT
  | false => obtain ⟨c1, o1, a, b, e⟩ := hT; exact ⟨c1, o1, hs _ a, hs _ b, e⟩
theorem Tab2.mono {c : Bool} (hT : Tab2 c news) (hs : ∀ p ∈ news, p ∈ news') : Tab2 c news' := by
  cases c with
  | true => exact hs _ hT
  | false => obtain ⟨c1, o1, a, b, e⟩ := hT; exact ⟨c1, o1, hs _ a, hs _ b, e⟩
theorem Tab1.pick {c : Bool} (hT : Tab1 c news) : ∃ o e p, (39, o) ∈ news ∧ (e, p) ∈ news ∧ Tab1 c [(39, o), (e, p)] := by
  cases c with
  | true => exact ⟨_, _, _, hT, hT, List.mem_cons_self ..⟩
  | false => obtain ⟨c1, o1, a, b, e⟩ := hT; exact ⟨_, _, _, a, b, c1, o1, List.mem_cons_self .., List.mem_cons_of_mem _ (List.mem_cons_self ..), e⟩
theorem Tab2.pick {c : Bool} (hT : Tab2 c news) : ∃ o e p, (46, o) ∈ news ∧ (e, p) ∈ news ∧ Tab2 c [(46, o), (e, p)] := by
  cases c with
  | true => exact ⟨_, _, _, hT, hT, List.mem_cons_self ..⟩
  | false => obtain ⟨c1, o1, a, b, e⟩ := hT; exact ⟨_, _, _, a, b, c1, o1, List.mem_cons_self .., List.mem_cons_of_mem _ (List.mem_cons_self ..), e⟩
theorem stay {q z : Addr × Obj} (h : q.1 ≠ 39 → q ∈ news) (hz : z ∈ news) : ∃ x y, (q.1 ≠ 39 → (x, y) = q) ∧ (x, y) ∈ news := by
  by_cases e : q.1 = 39
  · exact ⟨z.1, z.2, fun n => absurd e n, hz⟩
  · exact ⟨q.1, q.2, fun _ => rfl, h e⟩
theorem into (_N : News h₀ L h news) {q : Addr × Obj} (hq : q ∈ news) : q ∈ news := hq
theorem Tab1.into {c : Bool} {sub : Led} (_N : News h₀ L h news) (T : Tab1 c sub) (hs : ∀ p ∈ sub, p ∈ news) : Tab1 c news := T.mono hs
theorem Tab2.into {c : Bool} {sub : Led} (_N : News h₀ L h news) (T : Tab2 c sub) (hs : ∀ p ∈ sub, p ∈ news) : Tab2 c news := T.mono hs
theorem news_head {q : Addr × Obj} (N : News h₀ L h news) (hq : q ∈ news) : News h₀ L h (q :: news) := fun p hp => (List.mem_cons.mp hp).elim (fun e => by rw [e]; exact N _ hq) (N p)
end
section
set_option maxRecDepth 100000 in
set_option maxHeartbeats 8000000 in
theorem c_pos1 {w : World} {un : Nat} {c : Bool} {news : Led} {a n n2 n3 : Int} {t1 t2 : Tok} (hc : Tabs c news)
    (ha0 : 1 ≤ a) (ha1 : a ≤ 7) (hn0 : 1 ≤ n) (hn1 : n ≤ 3) (hb : ((Builtin.Int.intBits a : Nat) : Int) = n) (e1 : n + n = n2) (e2 : n2 - 1 = n3) (e3 : n3.fdiv n = 1) (e4 : (0 : Int) * 2 ^ n.toNat = 0) (e5 : 0 + a = a) (e6 : n - n = 0) (e7 : a.fdiv a = 1) (e8 : a.fmod a = 0) :
    Ctr w 58 [.int a t1, .int a t2] 305 un news (DivPost 1 0 news) := by
  w_top off
  unfold Ctr Prg; k_fill
  intro gd cn cs ad ccd cl outer A₀ base h₀ L0 m s Q E pg loose mean mg mb B F X N TT hk k1 k2 k3 hret
  obtain ⟨o39, c1, p1, m39, me1, T1⟩ := hc.one.pick
  obtain ⟨o46, c2, p2, m46, me2, T2⟩ := hc.two.pick
  have N1 : News h₀ L0 s.heap [(39, o39), (c1, p1), (46, o46), (c2, p2)] := own_news N (by
    intro q hq
    simp only [List.mem_cons, List.not_mem_nil, or_false] at hq
    rcases hq with rfl | rfl | rfl | rfl
    · exact m39
    · exact me1
    · exact m46
    · exact me2)
  have hr := off_own (own := [(39, o39), (c1, p1), (46, o46), (c2, p2)]) N
  refine wpAny_call ?_
  k_dflt (tb_from [(39, o39), (c1, p1), (46, o46), (c2, p2)] (keepOff [39, c1, 46, c2] news))
  intro g' L' h' FG' F' N' hG' hl' B' X' T'
  k_lt hl'
  dsimp only
  try k_fold
  k_steps
  refine Stop.mk ?_
  rename Fr g' L' _ _ => lF
  rename News g' L' _ _ => lN
  have U1 : Tab1 c [(39, o39), (c1, p1), (46, o46), (c2, p2)] := T1.mono fun p hp => by simp only [List.mem_cons, List.not_mem_nil, or_false] at hp ⊢; rcases hp with h | h <;> simp [h]
  have U2 : Tab2 c [(39, o39), (c1, p1), (46, o46), (c2, p2)] := T2.mono fun p hp => by simp only [List.mem_cons, List.not_mem_nil, or_false] at hp ⊢; rcases hp with h | h <;> simp [h]
  refine Ctr.use (c_int2_1 U1 ha0 ha1 hn0 hn1 hb e1 e2 e3) B' lF X' lN T' rfl k1 k2 k3 ?_
  intro r news1 h2 tk2 F2 N2 P2
  obtain ⟨l, vs, nl, rfl, ml, il, ⟨d1, q1, a1, b1, w1⟩, K1⟩ := P2
  obtain ⟨tv, rfl⟩ := ints_1 il
  obtain ⟨o46', d2, q2, a2, b2, S2⟩ := (U2.step lN U1.at K1).pick
  obtain ⟨x1, y1, z1, hz1⟩ := stay (q := (c1, p1)) (K1 _ (by k_mem)) ml
  obtain ⟨x2, y2, z2, hz2⟩ := stay (q := (c2, p2)) (K1 _ (by k_mem)) ml
  have N3 : News g' L' h2 [(l, W.listOf (List.toArray [.int a tv]) nl), (39, tabObj (#[] ++ #[rawInt 53, rawInt 4, .ref d1])), (d1, q1), (46, o46'), (d2, q2), (x1, y1), (x2, y2)] := own_news N2 (by
    intro q hq
    simp only [List.mem_cons, List.not_mem_nil, or_false] at hq
    rcases hq with rfl | rfl | rfl | rfl | rfl | rfl | rfl
    · exact ml
    · exact a1
    · exact b1
    · exact a2
    · exact b2
    · exact hz1
    · exact hz2)
  clear N2 lF lN
  dsimp only
  k_steps
  refine Stop.mk ?_
  rename Fr g' L' _ _ => lF
  rename News g' L' _ _ => lN
  refine Ctr.use (c_div2n1n (h1 := n) (by omega) (by omega) (by omega) (by omega) hn0 hn1 hb (by omega) e6 e7 e8) B' lF X' lN T' rfl k1 k2 k3 ?_
  intro r news2 h3 tk3 F3 N3 P3
  obtain ⟨q, ta, tb, rfl, rfl, lq⟩ := P3
  k_lt lq
  clear lF lN
  dsimp only
  k_steps
  refine Stop.mk ?_
  rename Fr g' L' _ _ => lF
  rename News g' L' _ _ => lN
  have W1 := Tab1.into (c := false) lN ⟨d1, q1, List.mem_cons_self .., List.mem_cons_of_mem _ (List.mem_cons_self ..), w1⟩ (sub := [(39, tab 53 d1), (d1, q1)]) (List.forall_mem_cons.mpr ⟨by k_mem, List.forall_mem_cons.mpr ⟨by k_mem, List.forall_mem_nil _⟩⟩)
  have W2 := Tab2.into lN S2 (List.forall_mem_cons.mpr ⟨by k_mem, List.forall_mem_cons.mpr ⟨by k_mem, List.forall_mem_nil _⟩⟩)
  have mx1 := into lN (q := (x1, y1)) (by k_mem)
  have mx2 := into lN (q := (x2, y2)) (by k_mem)
  refine' Ctr.use (c_dig2_1 (c := c) (v := 1) W2 ?ml) B' lF X' lN T' rfl k1 k2 k3 ?_
  case ml => k_mem
  intro r news4 h5 tk5 F5 N5 P5
  obtain ⟨tq, rfl, V2, K5⟩ := P5
  have V1 := W1.step lN W2.at K5
  replace mx1 := K5 _ mx1
  replace mx2 := K5 _ mx2
  clear lF lN W1 W2
  dsimp only
  k_steps
  rename Fr h₀ L0 _ m => kF
  rename News h₀ L0 _ _ => kN
  rename Fr g' L' _ _ => eF
  refine hret _ _ _ _ kF (news_app kN (news_back (own_news N fun q hq => (mem_keepOff.mp hq).1) hG' eF)) ⟨_, _, _, rfl, List.mem_append_left _ (by k_mem), (Tabs.of V1 V2).mono fun p hp => List.mem_append_left _ (by simp [hp]), fun q hq n1 n2 => ?_⟩
  by_cases e1 : q.1 = c1
  · rw [same_obj N hq me1 e1, ← z1 (by rw [← e1]; exact n1)]
    exact List.mem_append_left _ (List.mem_cons_of_mem _ (mx1 (by have := z1 (by rw [← e1]; exact n1); rw [this]; show c1 ≠ 46; rw [← e1]; exact n2)))
  by_cases e2 : q.1 = c2
  · rw [same_obj N hq me2 e2, ← z2 (by rw [← e2]; exact n1)]
    exact List.mem_append_left _ (List.mem_cons_of_mem _ (mx2 (by have := z2 (by rw [← e2]; exact n1); rw [this]; show c2 ≠ 46; rw [← e2]; exact n2)))
  exact List.mem_append_right _ (mem_keepOff.mpr ⟨hq, by simp [n1, n2, e1, e2]⟩)
set_option maxRecDepth 100000 in
set_option maxHeartbeats 8000000 in
theorem c_pos2 {w : World} {un : Nat} {news : Led} {a b n n1 s1 s2 p lo d1 x1 r1 f1 g h1 d2 x0 r0 y1 q : Int} {t1 t2 : Tok} (hc : Tabs false news)
    (ha0 : 1 ≤ a) (ha1 : a ≤ 14) (hb0 : 1 ≤ b) (hb1 : b ≤ 7) (hn0 : 1 ≤ n) (hn1 : n ≤ 3) (hbb : ((Builtin.Int.intBits b : Nat) : Int) = n) (hba : ((Builtin.Int.intBits a : Nat) : Int) = n1)
    (e1 : n1 + n = s1) (e2 : s1 - 1 = s2) (e3 : s2.fdiv n = 2) (e4 : 1 * n = n) (hm : IntMulOk 1 n) (e5 : a.fdiv (2 ^ n.toNat) = 1) (e6 : 1 * 2 ^ n.toNat = p) (e7 : Builtin.bitXor a p = lo)
    (e8 : (0 : Int) * 2 ^ n.toNat = 0) (e9 : 1 - n = d1) (e10 : Int.fdiv 1 b = x1) (e11 : Int.fmod 1 b = r1) (hr0 : 0 ≤ r1) (hr1 : r1 ≤ 7) (e12 : r1 * 2 ^ n.toNat = f1) (e13 : f1 + lo = g) (hg0 : 0 ≤ g) (hg1 : g ≤ 1000)
    (e14 : ((Builtin.Int.intBits g : Nat) : Int) = h1) (hh1 : h1 ≤ 10) (e15 : h1 - n = d2) (e16 : g.fdiv b = x0) (e17 : g.fmod b = r0) (hx0 : 0 ≤ [x0, x1].getD (Int.toNat 1) 0) (hx1 : [x0, x1].getD (Int.toNat 1) 0 ≤ 7) (e18 : [x0, x1].getD (Int.toNat 1) 0 * 2 ^ n.toNat = y1) (e19 : y1 + [x0, x1].getD (Int.toNat 0) 0 = q) :
    Ctr w 58 [.int a t1, .int b t2] 305 un news (DivPost q r0 news) := by
  w_top off
  unfold Ctr Prg; k_fill
  intro gd cn cs ad ccd cl outer A₀ base h₀ L0 m s Q E pg loose mean mg mb B F X N TT hk k1 k2 k3 hret
  obtain ⟨o39, k1c, k1p, m39, me1, T1⟩ := hc.one.pick
  obtain ⟨o46, k2c, k2p, m46, me2, T2⟩ := hc.two.pick
  have N1 : News h₀ L0 s.heap [(39, o39), (k1c, k1p), (46, o46), (k2c, k2p)] := own_news N (by
    intro qq hq
    simp only [List.mem_cons, List.not_mem_nil, or_false] at hq
    rcases hq with rfl | rfl | rfl | rfl
    · exact m39
    · exact me1
    · exact m46
    · exact me2)
  have hr := off_own (own := [(39, o39), (k1c, k1p), (46, o46), (k2c, k2p)]) N
  refine wpAny_call ?_
  k_dflt (tb_from [(39, o39), (k1c, k1p), (46, o46), (k2c, k2p)] (keepOff [39, k1c, 46, k2c] news))
  intro g' L' h' FG' F' N' hG' hl' B' X' T'
  k_lt hl'
  dsimp only
  try k_fold
  k_steps
  refine Stop.mk ?_
  rename Fr g' L' _ _ => lF
  rename News g' L' _ _ => lN
  have U1 : Tab1 false [(39, o39), (k1c, k1p), (46, o46), (k2c, k2p)] := T1.mono fun p hp => by simp only [List.mem_cons, List.not_mem_nil, or_false] at hp ⊢; rcases hp with h | h <;> simp [h]
  have U2 : Tab2 false [(39, o39), (k1c, k1p), (46, o46), (k2c, k2p)] := T2.mono fun p hp => by simp only [List.mem_cons, List.not_mem_nil, or_false] at hp ⊢; rcases hp with h | h <;> simp [h]
  refine Ctr.use (c_int2_2 U1 ha0 ha1 hn0 hn1 hba e1 e2 e3 e4 hm e5 e6 e7) B' lF X' lN T' rfl k1 k2 k3 ?_
  intro rv news1 h2 tk2 F2 N2 P2
  obtain ⟨l, vs, nl, rfl, ml, il, ⟨k1d, k1q, a1, b1, w1⟩, K1⟩ := P2
  obtain ⟨tv, tu, rfl⟩ := ints_2 il
  obtain ⟨o46', k2d, k2q, a2, b2, S2⟩ := (U2.step lN U1.at K1).pick
  obtain ⟨k1x, k1y, z1, hz1⟩ := stay (q := (k1c, k1p)) (K1 _ (by k_mem)) ml
  obtain ⟨k2x, k2y, z2, hz2⟩ := stay (q := (k2c, k2p)) (K1 _ (by k_mem)) ml
  have N3 : News g' L' h2 [(l, W.listOf (List.toArray [.int lo tv, .int 1 tu]) nl), (39, tabObj (#[] ++ #[rawInt 53, rawInt 4, .ref k1d])), (k1d, k1q), (46, o46'), (k2d, k2q), (k1x, k1y), (k2x, k2y)] := own_news N2 (by
    intro qq hq
    simp only [List.mem_cons, List.not_mem_nil, or_false] at hq
    rcases hq with rfl | rfl | rfl | rfl | rfl | rfl | rfl
    · exact ml
    · exact a1
    · exact b1
    · exact a2
    · exact b2
    · exact hz1
    · exact hz2)
  clear N2 lF lN
  dsimp only
  k_steps
  refine Stop.mk ?_
  rename Fr g' L' _ _ => lF
  rename News g' L' _ _ => lN
  refine Ctr.use (c_div2n1n (a := 1) (h1 := 1) (by decide) (by decide) hb0 hb1 hn0 hn1 (by decide) (by decide) e9 e10 e11) B' lF X' lN T' rfl k1 k2 k3 ?_
  intro rv news2 h3 tk3 F3 N3 P3
  obtain ⟨qq, ta, tb, rfl, rfl, lq⟩ := P3
  k_lt lq
  clear lF lN
  dsimp only
  k_steps
  refine Stop.mk ?_
  rename Fr g' L' _ _ => lF
  rename News g' L' _ _ => lN
  refine Ctr.use (c_div2n1n hg0 hg1 hb0 hb1 hn0 hn1 e14 hh1 e15 e16 e17) B' lF X' lN T' rfl k1 k2 k3 ?_
  intro rv news2 h3 tk3 F3 N3 P3
  obtain ⟨qq, ta, tb, rfl, rfl, lq⟩ := P3
  k_lt lq
  clear lF lN
  dsimp only
  k_steps
  refine Stop.mk ?_
  rename Fr g' L' _ _ => lF
  rename News g' L' _ _ => lN
  have W1 := Tab1.into (c := false) lN ⟨k1d, k1q, List.mem_cons_self .., List.mem_cons_of_mem _ (List.mem_cons_self ..), w1⟩ (sub := [(39, tab 53 k1d), (k1d, k1q)]) (List.forall_mem_cons.mpr ⟨by k_mem, List.forall_mem_cons.mpr ⟨by k_mem, List.forall_mem_nil _⟩⟩)
  have W2 := Tab2.into lN S2 (List.forall_mem_cons.mpr ⟨by k_mem, List.forall_mem_cons.mpr ⟨by k_mem, List.forall_mem_nil _⟩⟩)
  have mx1 := into lN (q := (k1x, k1y)) (by k_mem)
  have mx2 := into lN (q := (k2x, k2y)) (by k_mem)
  refine' Ctr.use (c_dig2_2 W2 ?ml hn0 hn1 e4 hm hx0 hx1 e18 e19) B' lF X' lN T' rfl k1 k2 k3 ?_
  case ml => k_mem
  intro rv news4 h5 tk5 F5 N5 P5
  obtain ⟨tq, rfl, V2, K5⟩ := P5
  have V1 := W1.step lN W2.at K5
  replace mx1 := K5 _ mx1
  replace mx2 := K5 _ mx2
  clear lF lN W1 W2
  dsimp only
  k_steps
  rename Fr h₀ L0 _ m => kF
  rename News h₀ L0 _ _ => kN
  rename Fr g' L' _ _ => eF
  refine hret _ _ _ _ kF (news_app kN (news_back (own_news N fun qq hq => (mem_keepOff.mp hq).1) hG' eF)) ⟨_, _, _, rfl, List.mem_append_left _ (by k_mem), (Tabs.of V1 V2).mono fun p hp => List.mem_append_left _ (by simp [hp]), fun qq hq n1 n2 => ?_⟩
  by_cases e1 : qq.1 = k1c
  · rw [same_obj N hq me1 e1, ← z1 (by rw [← e1]; exact n1)]
    exact List.mem_append_left _ (List.mem_cons_of_mem _ (mx1 (by have := z1 (by rw [← e1]; exact n1); rw [this]; show k1c ≠ 46; rw [← e1]; exact n2)))
  by_cases e2 : qq.1 = k2c
  · rw [same_obj N hq me2 e2, ← z2 (by rw [← e2]; exact n1)]
    exact List.mem_append_left _ (List.mem_cons_of_mem _ (mx2 (by have := z2 (by rw [← e2]; exact n1); rw [this]; show k2c ≠ 46; rw [← e2]; exact n2)))
  exact List.mem_append_right _ (mem_keepOff.mpr ⟨hq, by simp [n1, n2, e1, e2]⟩)
set_option maxRecDepth 100000 in
set_option maxHeartbeats 8000000 in
theorem c_dm {w : World} {un : Nat} {news : Led} {a b x y : Int} {t1 t2 : Tok} (ha : 0 ≤ a) (hb : 0 < b) (C : ∀ un, Ctr w 58 [.int a t1, .int b t2] 305 un news (DivPost x y news)) :
    Ctr w 65 [.int a t1, .int b t2] 304 un news (DivPost x y news) := by
  w_top off
  unfold Ctr Prg; k_fill
  intro gd cn cs ad ccd cl outer A₀ base h₀ L0 m s Q E pg loose mean mg mb B F X N TT hk k1 k2 k3 hret
  refine wpAny_call ?_
  k_dflt (tb_turn [(Str.ofString "a", .int a t1), (Str.ofString "b", .int b t2)])
  intro g' L' h' FG' F' N' B' X' T'
  dsimp only
  try k_fold
  k_steps
  refine Stop.mk ?_
  rename Fr g' L' _ _ => lF
  rename News g' L' _ _ => lN
  refine Ctr.use (C _) B' lF X' lN T' rfl k1 k2 k3 ?_
  intro r news1 h2 tk2 F2 N2 P2
  obtain ⟨q, ta, tb, rfl, hq, hT, hk2⟩ := P2
  clear lF lN
  dsimp only
  k_steps
  rename Fr h₀ L0 _ m => kF
  rename News h₀ L0 _ _ => kN
  exact hret _ _ _ _ kF kN ⟨q, ta, tb, rfl, hq, hT, hk2⟩
end
end
end
end

/-! D3 -/
section
theorem one_of_14 (r : Int) (h0 : 1 ≤ r) (h1 : r ≤ 14) : r = 1 ∨ r = 2 ∨ r = 3 ∨ r = 4 ∨ r = 5 ∨ r = 6 ∨ r = 7 ∨ r = 8 ∨ r = 9 ∨ r = 10 ∨ r = 11 ∨ r = 12 ∨ r = 13 ∨ r = 14 :=
  upto14 (P := fun r => r = 1 ∨ r = 2 ∨ r = 3 ∨ r = 4 ∨ r = 5 ∨ r = 6 ∨ r = 7 ∨ r = 8 ∨ r = 9 ∨ r = 10 ∨ r = 11 ∨ r = 12 ∨ r = 13 ∨ r = 14) (by decide) r h0 h1
theorem c_div {w : World} {un : Nat} {c : Bool} {news : Led} {r : Int} {t1 t2 : Tok} (hc : Tabs c news) (hcold : c = true → r = 1) (h0 : 1 ≤ r) (h1 : r ≤ 14) :
    Ctr w 65 [.int r t1, .int (wt r) t2] 304 un news (DivPost (r.fdiv (wt r)) (r.fmod (wt r)) news) := by
  obtain rfl | hr := Decidable.em (r = 1)
  · exact c_dm (by decide) (by decide) fun _ => c_pos1 (n := 1) (n2 := 2) (n3 := 1) hc (by decide) (by decide) (by decide) (by decide) (by decide) (by decide) (by decide) (by decide) (by decide) (by decide) (by decide) (by decide) (by decide)
  have hc' : Tabs false news := by
    cases c with
    | true => exact absurd (hcold rfl) hr
    | false => exact hc
  obtain rfl | rfl | rfl | rfl | rfl | rfl | rfl | rfl | rfl | rfl | rfl | rfl | rfl := (one_of_14 r h0 h1).resolve_left hr
  · exact c_dm (by decide) (by decide) fun _ => c_pos2 (n := 1) (n1 := 2) (s1 := 3) (s2 := 2) (p := 2) (lo := 0) (d1 := 0) (x1 := 1) (r1 := 0) (f1 := 0) (g := 0) (h1 := 0) (d2 := -1) (x0 := 0) (r0 := 0) (y1 := 2) (q := 2) hc' (by decide) (by decide) (by decide) (by decide) (by decide) (by decide) (by decide) (by decide) (by decide) (by decide) (by decide) (by decide) (by mul_fits) (by decide) (by decide) (by decide) (by decide) (by decide) (by decide) (by decide) (by decide) (by decide) (by decide) (by decide) (by decide) (by decide) (by decide) (by decide) (by decide) (by decide) (by decide) (by decide) (by decide) (by decide) (by decide)
  · exact c_dm (by decide) (by decide) fun _ => c_pos1 (n := 2) (n2 := 4) (n3 := 3) hc' (by decide) (by decide) (by decide) (by decide) (by decide) (by decide) (by decide) (by decide) (by decide) (by decide) (by decide) (by decide) (by decide)
  · exact c_dm (by decide) (by decide) fun _ => c_pos2 (n := 2) (n1 := 3) (s1 := 5) (s2 := 4) (p := 4) (lo := 0) (d1 := -1) (x1 := 0) (r1 := 1) (f1 := 4) (g := 4) (h1 := 3) (d2 := 1) (x0 := 1) (r0 := 1) (y1 := 0) (q := 1) hc' (by decide) (by decide) (by decide) (by decide) (by decide) (by decide) (by decide) (by decide) (by decide) (by decide) (by decide) (by decide) (by mul_fits) (by decide) (by decide) (by decide) (by decide) (by decide) (by decide) (by decide) (by decide) (by decide) (by decide) (by decide) (by decide) (by decide) (by decide) (by decide) (by decide) (by decide) (by decide) (by decide) (by decide) (by decide) (by decide)
  · exact c_dm (by decide) (by decide) fun _ => c_pos2 (n := 2) (n1 := 3) (s1 := 5) (s2 := 4) (p := 4) (lo := 1) (d1 := -1) (x1 := 0) (r1 := 1) (f1 := 4) (g := 5) (h1 := 3) (d2 := 1) (x0 := 1) (r0 := 2) (y1 := 0) (q := 1) hc' (by decide) (by decide) (by decide) (by decide) (by decide) (by decide) (by decide) (by decide) (by decide) (by decide) (by decide) (by decide) (by mul_fits) (by decide) (by decide) (by decide) (by decide) (by decide) (by decide) (by decide) (by decide) (by decide) (by decide) (by decide) (by decide) (by decide) (by decide) (by decide) (by decide) (by decide) (by decide) (by decide) (by decide) (by decide) (by decide)
  · exact c_dm (by decide) (by decide) fun _ => c_pos2 (n := 2) (n1 := 3) (s1 := 5) (s2 := 4) (p := 4) (lo := 2) (d1 := -1) (x1 := 0) (r1 := 1) (f1 := 4) (g := 6) (h1 := 3) (d2 := 1) (x0 := 2) (r0 := 0) (y1 := 0) (q := 2) hc' (by decide) (by decide) (by decide) (by decide) (by decide) (by decide) (by decide) (by decide) (by decide) (by decide) (by decide) (by decide) (by mul_fits) (by decide) (by decide) (by decide) (by decide) (by decide) (by decide) (by decide) (by decide) (by decide) (by decide) (by decide) (by decide) (by decide) (by decide) (by decide) (by decide) (by decide) (by decide) (by decide) (by decide) (by decide) (by decide)
  · exact c_dm (by decide) (by decide) fun _ => c_pos1 (n := 3) (n2 := 6) (n3 := 5) hc' (by decide) (by decide) (by decide) (by decide) (by decide) (by decide) (by decide) (by decide) (by decide) (by decide) (by decide) (by decide) (by decide)
  · exact c_dm (by decide) (by decide) fun _ => c_pos2 (n := 3) (n1 := 4) (s1 := 7) (s2 := 6) (p := 8) (lo := 0) (d1 := -2) (x1 := 0) (r1 := 1) (f1 := 8) (g := 8) (h1 := 4) (d2 := 1) (x0 := 1) (r0 := 1) (y1 := 0) (q := 1) hc' (by decide) (by decide) (by decide) (by decide) (by decide) (by decide) (by decide) (by decide) (by decide) (by decide) (by decide) (by decide) (by mul_fits) (by decide) (by decide) (by decide) (by decide) (by decide) (by decide) (by decide) (by decide) (by decide) (by decide) (by decide) (by decide) (by decide) (by decide) (by decide) (by decide) (by decide) (by decide) (by decide) (by decide) (by decide) (by decide)
  · exact c_dm (by decide) (by decide) fun _ => c_pos2 (n := 3) (n1 := 4) (s1 := 7) (s2 := 6) (p := 8) (lo := 1) (d1 := -2) (x1 := 0) (r1 := 1) (f1 := 8) (g := 9) (h1 := 4) (d2 := 1) (x0 := 1) (r0 := 2) (y1 := 0) (q := 1) hc' (by decide) (by decide) (by decide) (by decide) (by decide) (by decide) (by decide) (by decide) (by decide) (by decide) (by decide) (by decide) (by mul_fits) (by decide) (by decide) (by decide) (by decide) (by decide) (by decide) (by decide) (by decide) (by decide) (by decide) (by decide) (by decide) (by decide) (by decide) (by decide) (by decide) (by decide) (by decide) (by decide) (by decide) (by decide) (by decide)
  · exact c_dm (by decide) (by decide) fun _ => c_pos2 (n := 3) (n1 := 4) (s1 := 7) (s2 := 6) (p := 8) (lo := 2) (d1 := -2) (x1 := 0) (r1 := 1) (f1 := 8) (g := 10) (h1 := 4) (d2 := 1) (x0 := 1) (r0 := 3) (y1 := 0) (q := 1) hc' (by decide) (by decide) (by decide) (by decide) (by decide) (by decide) (by decide) (by decide) (by decide) (by decide) (by decide) (by decide) (by mul_fits) (by decide) (by decide) (by decide) (by decide) (by decide) (by decide) (by decide) (by decide) (by decide) (by decide) (by decide) (by decide) (by decide) (by decide) (by decide) (by decide) (by decide) (by decide) (by decide) (by decide) (by decide) (by decide)
  · exact c_dm (by decide) (by decide) fun _ => c_pos2 (n := 3) (n1 := 4) (s1 := 7) (s2 := 6) (p := 8) (lo := 3) (d1 := -2) (x1 := 0) (r1 := 1) (f1 := 8) (g := 11) (h1 := 4) (d2 := 1) (x0 := 1) (r0 := 4) (y1 := 0) (q := 1) hc' (by decide) (by decide) (by decide) (by decide) (by decide) (by decide) (by decide) (by decide) (by decide) (by decide) (by decide) (by decide) (by mul_fits) (by decide) (by decide) (by decide) (by decide) (by decide) (by decide) (by decide) (by decide) (by decide) (by decide) (by decide) (by decide) (by decide) (by decide) (by decide) (by decide) (by decide) (by decide) (by decide) (by decide) (by decide) (by decide)
  · exact c_dm (by decide) (by decide) fun _ => c_pos2 (n := 3) (n1 := 4) (s1 := 7) (s2 := 6) (p := 8) (lo := 4) (d1 := -2) (x1 := 0) (r1 := 1) (f1 := 8) (g := 12) (h1 := 4) (d2 := 1) (x0 := 1) (r0 := 5) (y1 := 0) (q := 1) hc' (by decide) (by decide) (by decide) (by decide) (by decide) (by decide) (by decide) (by decide) (by decide) (by decide) (by decide) (by decide) (by mul_fits) (by decide) (by decide) (by decide) (by decide) (by decide) (by decide) (by decide) (by decide) (by decide) (by decide) (by decide) (by decide) (by decide) (by decide) (by decide) (by decide) (by decide) (by decide) (by decide) (by decide) (by decide) (by decide)
  · exact c_dm (by decide) (by decide) fun _ => c_pos2 (n := 3) (n1 := 4) (s1 := 7) (s2 := 6) (p := 8) (lo := 5) (d1 := -2) (x1 := 0) (r1 := 1) (f1 := 8) (g := 13) (h1 := 4) (d2 := 1) (x0 := 1) (r0 := 6) (y1 := 0) (q := 1) hc' (by decide) (by decide) (by decide) (by decide) (by decide) (by decide) (by decide) (by decide) (by decide) (by decide) (by decide) (by decide) (by mul_fits) (by decide) (by decide) (by decide) (by decide) (by decide) (by decide) (by decide) (by decide) (by decide) (by decide) (by decide) (by decide) (by decide) (by decide) (by decide) (by decide) (by decide) (by decide) (by decide) (by decide) (by decide) (by decide)
  · exact c_dm (by decide) (by decide) fun _ => c_pos2 (n := 3) (n1 := 4) (s1 := 7) (s2 := 6) (p := 8) (lo := 6) (d1 := -2) (x1 := 0) (r1 := 1) (f1 := 8) (g := 14) (h1 := 4) (d2 := 1) (x0 := 2) (r0 := 0) (y1 := 0) (q := 2) hc' (by decide) (by decide) (by decide) (by decide) (by decide) (by decide) (by decide) (by decide) (by decide) (by decide) (by decide) (by decide) (by mul_fits) (by decide) (by decide) (by decide) (by decide) (by decide) (by decide) (by decide) (by decide) (by decide) (by decide) (by decide) (by decide) (by decide) (by decide) (by decide) (by decide) (by decide) (by decide) (by decide) (by decide) (by decide) (by decide)
end
section
set_option rowWalk.seconds 0
local macro_rules | `(tactic| tb_from $t:term $r:term) => `(tactic| (refine' code_defR (own := $t) (rest := $r) ?k1 ?k2 ?k3 ?k4 ?kr ?k5 ?kA ?kF ?kK ?k6 ?k7 ?k8 ?k9 ?kB ?_ ?c2 ?c3 ?c4 ?c5; (case kA => exact rfl); (case kF => exact rfl); (case kK => assumption); (case k1 => k_asm); (case k2 => k_asm); (case k3 => k_asm); (case k4 => k_asm); (case kr => assumption); (case k5 => k_asm); (case k6 => k_is); (case k7 => k_is); (case k8 => ktr_room); (case k9 => exact BindsTo.of_eq rfl); (case c5 => decide); (case kB => exact locs rfl); (case c2 => exact rfl); (case c3 => exact rfl); (case c4 => exact rfl); k_whole))
local macro_rules | `(tactic| walk_at "subscriptTail Name UnaryOp ref int") => `(tactic| (k_here; refine back_push (by k_asm) (by k_mem) ?_))
local macro_rules | `(tactic| walk_at "call ref") => `(tactic| ((with_reducible show wpAny _ _ (call (Value.ref 65) _) _ _ _); refine stopped ?_))

/-! E1 -/
section
set_option rowWalk.seconds 0
def DividedPost (d : Int) (news : Led) (r : Value) (news' : Led) : Prop :=
  ∃ q fl wl fv wv nf nw, r = .ref q ∧ (q, tupOf #[.ref fl, .ref wl]) ∈ news' ∧ (fl, W.listOf (List.toArray fv) nf) ∈ news' ∧ (wl, W.listOf (List.toArray wv) nw) ∈ news' ∧ IntsAre fv (figs d) ∧ IntsAre wv (wts d) ∧ Tabs false news' ∧ ∀ p ∈ news, p.1 ≠ 39 → p.1 ≠ 46 → p ∈ news'
structure DSt where
  fv : List Value
  wv : List Value
  nf : Nat
  nw : Nat
  F : List Int
  W : List Int
  rest : Int
  tk : Tok
  led : Led
structure DInv (d : Int) (news : Led) (fl wl : Addr) (c : DSt) : Prop where
  hf : IntsAre c.fv c.F
  hw : IntsAre c.wv c.W
  ef : c.F ++ figs c.rest = figs d
  ew : c.W ++ wts c.rest = wts d
  r0 : 0 ≤ c.rest
  r1 : c.rest ≤ 14
  off : OwnOff c.led [fl, wl]
  tabs : ∃ b, Tabs b c.led ∧ (b = true → c.rest = 1)
  keep : ∀ p ∈ news, p.1 ≠ 39 → p.1 ≠ 46 → p ∈ c.led
section

set_option maxRecDepth 100000 in
set_option maxHeartbeats 8000000 in
theorem c_divided {w : World} {un : Nat} {c : Bool} {news : Led} {d : Int} {t1 : Tok} (hc : Tabs c news) (hcold : c = true → d = 1) (h0 : 1 ≤ d) (h1 : d ≤ 14) :
    Ctr w 121 [.int d t1] 303 un news (DividedPost d news) := by
  w_top off
  unfold Ctr Prg; k_fill
  intro gd cn cs ad ccd cl outer A₀ base h₀ L0 m s Q E pg loose mean mg mb B F X N TT hk k1 k2 k3 hret
  refine wpAny_call ?_
  k_dflt (tb_turn [(Str.ofString "depth", .int d t1)])
  intro g' L' h' FG' F' N' B' X' T'
  dsimp only
  try k_fold
  k_steps
  refine Stop.mk ?_
  rename_i fl _ lf wl _ lw D _ lD _ _ _ _ lF lN
  have hne : @Ne Nat fl wl := Nat.ne_of_lt lw.1
  have off : OwnOff news [fl, wl] := fun p hp b hb => by
    simp only [List.mem_cons, List.not_mem_nil, or_false] at hb
    rcases hb with rfl | rfl
    · exact Nat.ne_of_lt (lf p hp)
    · exact Nat.ne_of_lt (allLt_mem lw.2 p hp)
  clear lf lw lD
  with_unfolding_all refine' ksw_while (fun c : DSt => (fl, W.listOf (List.toArray c.fv) c.nf) :: (wl, W.listOf (List.toArray c.wv) c.nw) :: c.led) (fun c => [(Str.ofString "rest", .int c.rest c.tk)]) (fun _ => True) [Str.ofString "figure"] (DInv d news fl wl) (fun c => c.rest.toNat) ⟨[], [], 0, 0, [], [], d, t1, news⟩ lF ?kn trivial ?kk ⟨.nil, .nil, rfl, rfl, by dsimp only; omega, by dsimp only; omega, off, ⟨c, hc, hcold⟩, fun p hp _ _ => hp⟩ ?_
  case kk => kst_all
  case kn => exact news_sub lN (by intro p hp; simp only [List.mem_cons] at hp ⊢; rcases hp with h | h | h <;> simp [h])
  clear lF lN
  intro c u h tk hf hp F N
  obtain ⟨fv, wv, nf, nw, Fs, Ws, rest, tkr, led⟩ := c
  obtain ⟨if1, iw1, ef, ew, r0, r1, off2, ⟨b, ht, hb⟩, keep⟩ := hp
  dsimp only at F N if1 iw1 ef ew r0 r1 off2 ht hb keep
  have zf : fv.length ≤ 5 := by
    have := figs_len d
    rw [← ef, List.length_append] at this
    rw [ints_len if1]; omega
  have zw : wv.length ≤ 5 := by
    have := wts_len d
    rw [← ew, List.length_append] at this
    rw [ints_len iw1]; omega
  by_cases hz : rest = 0
  · subst hz
    k_steps
    rename Fr h₀ L0 _ m => kF
    rename News h₀ L0 _ _ => kN
    have hb' : b = false := by
      cases b with
      | true => exact absurd (hb rfl) (by decide)
      | false => rfl
    subst hb'
    have ef' : Fs = figs d := by rw [← ef]; exact (List.append_nil _).symm
    have ew' : Ws = wts d := by rw [← ew]; exact (List.append_nil _).symm
    refine hret _ _ _ _ kF kN ⟨_, fl, wl, fv, wv, nf, nw, rfl, by k_mem, by k_mem, by k_mem, ef' ▸ if1, ew' ▸ iw1, ht.mono fun p hp => List.mem_cons_of_mem _ (List.mem_cons_of_mem _ (List.mem_cons_of_mem _ hp)), fun p hp n1 n2 => List.mem_cons_of_mem _ (List.mem_cons_of_mem _ (List.mem_cons_of_mem _ (keep p hp n1 n2)))⟩
  · obtain ⟨kb, kk1, pw, eb, ek, kk0, kk10, ep, ewt⟩ := wt_made rest (by omega) r1
    obtain ⟨rp, erp⟩ : ∃ rp, rest + 1 = rp := ⟨_, rfl⟩
    rw [erp] at eb
    k_steps
    refine Stop.mk ?_
    rename Fr g' L' _ _ => lF
    rename News g' L' _ _ => lN
    refine Ctr.use (c_div (c := b) (ht.mono fun p hp => List.mem_cons_of_mem _ (List.mem_cons_of_mem _ hp)) hb (by omega) r1) B' lF X' lN T' rfl k1 k2 k3 ?_
    intro r news' h2 tk2 F2 N2 P2
    obtain ⟨q, ta, tb, rfl, hq, hT, hk2⟩ := P2
    have hfl := ht.ne off2 (x := fl) (by simp)
    have hwl := ht.ne off2 (x := wl) (by simp)
    have mf := hk2 _ (List.mem_cons_self ..) hfl.1 hfl.2
    have mw := hk2 _ (List.mem_cons_of_mem _ (List.mem_cons_self ..)) hwl.1 hwl.2
    have hqf := tl_ne N2 hq mf
    have hqw := tl_ne N2 hq mw
    have N3 := news_app (own_news N2 (own := [_, _, _]) (List.forall_mem_cons.mpr ⟨hq, List.forall_mem_cons.mpr ⟨mf, List.forall_mem_cons.mpr ⟨mw, List.forall_mem_nil _⟩⟩⟩)) (own_news N2 (own := keepOff [q, fl, wl] news') fun p hp => (mem_keepOff.mp hp).1)
    simp only [List.cons_append, List.nil_append] at N3
    have off3 : OwnOff (keepOff [q, fl, wl] news') [fl, wl] := fun p hp x hx e => (mem_keepOff.mp hp).2 (by rw [e]; exact List.mem_cons_of_mem _ hx)
    have tab3 : Tabs false ((q, tupOf #[.int (rest.fdiv (wt rest)) ta, .int (rest.fmod (wt rest)) tb]) :: keepOff [q, fl, wl] news') := (Tabs.keepOff (adr := [q, fl, wl]) hT N2 (List.forall_mem_cons.mpr ⟨⟨_, _, _, hq, rfl⟩, List.forall_mem_cons.mpr ⟨⟨_, _, _, mf, rfl⟩, List.forall_mem_cons.mpr ⟨⟨_, _, _, mw, rfl⟩, List.forall_mem_nil _⟩⟩⟩)).mono fun p hp => List.mem_cons_of_mem _ hp
    have keep3 : ∀ p ∈ led, p.1 ≠ 39 → p.1 ≠ 46 → p ∈ ((q, tupOf #[.int (rest.fdiv (wt rest)) ta, .int (rest.fmod (wt rest)) tb]) : Addr × Obj) :: keepOff [q, fl, wl] news' := fun p hp n1 n2 => by
      have hm := hk2 p (List.mem_cons_of_mem _ (List.mem_cons_of_mem _ hp)) n1 n2
      by_cases e : p.1 = q
      · rw [same_obj N2 hm hq e]; exact List.mem_cons_self ..
      · refine List.mem_cons_of_mem _ (mem_keepOff.mpr ⟨hm, ?_⟩)
        simp only [List.mem_cons, List.not_mem_nil, or_false, not_or]
        exact ⟨e, off2 p hp fl (by simp), off2 p hp wl (by simp)⟩
    clear N2 lN lF
    dsimp only
    k_steps
    refine Stop.mk ?_
    rename Fr g' L' _ _ => eF
    rename News g' L' _ _ => eN
    simp only [List.push_toArray] at eN
    obtain ⟨dsf, dsw, dm0, dm1⟩ := digs_step rest (by omega) r1
    refine' ksw_end ⟨fv ++ [.int (rest.fdiv (wt rest)) ta], wv ++ [_], nf + 1, nw + 1, Fs ++ [rest.fdiv (wt rest)], Ws ++ [wt rest], rest.fmod (wt rest), tb, (q, tupOf #[.int (rest.fdiv (wt rest)) ta, .int (rest.fmod (wt rest)) tb]) :: keepOff [q, fl, wl] news'⟩ eF eN ?hn trivial ?kk (by intro z h2 h3; simp only [List.forall_mem_cons, List.not_mem_nil, false_implies, implies_true, and_true, ne_eq] at h2; simp only [List.contains_cons, List.contains_nil, Bool.or_false, beq_eq_false_iff_ne, ne_eq] at h3; simp [h2, h3, kstB]) ?hp ?hm
    case hn =>
      refine List.forall_mem_cons.mpr ⟨by k_mem, List.forall_mem_cons.mpr ⟨by k_mem, List.forall_mem_cons.mpr ⟨by k_mem, fun p hp => ?_⟩⟩⟩
      exact List.mem_cons_of_mem _ (List.mem_cons_of_mem _ (List.mem_cons_of_mem _ hp))
    case kk => kst_all
    case hm => dsimp only; omega
    case hp =>
      refine ⟨ints_snoc if1, ints_snoc iw1, ?_, ?_, dm0, by dsimp only; omega, ?_, ⟨false, ?_, fun e => nomatch e⟩, ?_⟩
      · dsimp only; rw [← ef, dsf, List.append_assoc]; rfl
      · dsimp only; rw [← ew, dsw, List.append_assoc]; rfl
      · refine List.forall_mem_cons.mpr ⟨?_, off3⟩
        simp only [List.forall_mem_cons, List.not_mem_nil, false_implies, implies_true, and_true]
        exact ⟨hqf, hqw⟩
      · exact tab3
      · exact fun p hp n1 n2 => keep3 p (keep p hp n1 n2) n1 n2
end
end
end
end
section
set_option rowWalk.seconds 0
local macro_rules | `(tactic| tb_from $t:term $r:term) => `(tactic| (refine' code_defR (own := $t) (rest := $r) ?k1 ?k2 ?k3 ?k4 ?kr ?k5 ?kA ?kF ?kK ?k6 ?k7 ?k8 ?k9 ?kB ?_ ?c2 ?c3 ?c4 ?c5; (case kA => exact rfl); (case kF => exact rfl); (case kK => assumption); (case k1 => k_asm); (case k2 => k_asm); (case k3 => k_asm); (case k4 => k_asm); (case kr => assumption); (case k5 => k_asm); (case k6 => k_is); (case k7 => k_is); (case k8 => ktr_room); (case k9 => exact BindsTo.of_eq rfl); (case c5 => decide); (case kB => exact locs rfl); (case c2 => exact rfl); (case c3 => exact rfl); (case c4 => exact rfl); k_whole))
section
set_option rowWalk.seconds 0

/-! Small -/
section
section
variable {w : World} {f : Addr} {args : List Value} {dp un : Nat} {news : Led} {gd : Option (List Code)} {cn : Str} {cs : Scope} {a : Addr} {ccd : Value} {cl : List (Str × Addr)} {outer : List Env} {A₀ : Around} {base h₀ : Heap} {L : Addr} {m : Str → Option Value} {s : Shared}
    {Q E : Value → Shared → Prop} {p : Program} {loose : List Str} {mean : ExcName → Option Value} {mg mb : Str → Option Value}
/-- what a small def hands back: an int, a bool; the ledger stands -/
def IntPost (v : Int) (news : Led) (r : Value) (news' : Led) : Prop := news = news' ∧ ∃ t, r = .int v t
def BoolPost (b : Bool) (news : Led) (r : Value) (news' : Led) : Prop := news = news' ∧ r = .bool b
theorem Ctr.useI {v : Int} (C : Ctr w f args dp un news (IntPost v news)) (B : Below A₀ base outer h₀) (F : Fr h₀ L s.heap m) (X : (hd.heap_39 w.params).In h₀) (N : News h₀ L s.heap news) (T : Top p loose mean mg mb h₀) (hk : cs.kind = .function)
    (k1 : CodeHd base 43 39) (k2 : CodeHd base 50 46) (k3 : CodeHd base 141 137)
    (ret : ∀ t h' tk', Fr h₀ L h' m → News h₀ L h' news → Q (.int v t) { s with heap := h', toks := tk' }) :
    wpAny (model Prg w) (ktrTop dp un gd cn cs L a ccd cl outer) (call (.ref f) args) Q E s :=
  C.use B F X N T hk k1 k2 k3 fun _ _ h' tk' F' N' P => by
    obtain ⟨rfl, t, rfl⟩ := P
    exact ret t h' tk' F' N'
theorem Ctr.useB {b : Bool} (C : Ctr w f args dp un news (BoolPost b news)) (B : Below A₀ base outer h₀) (F : Fr h₀ L s.heap m) (X : (hd.heap_39 w.params).In h₀) (N : News h₀ L s.heap news) (T : Top p loose mean mg mb h₀) (hk : cs.kind = .function)
    (k1 : CodeHd base 43 39) (k2 : CodeHd base 50 46) (k3 : CodeHd base 141 137)
    (ret : ∀ h' tk', Fr h₀ L h' m → News h₀ L h' news → Q (.bool b) { s with heap := h', toks := tk' }) :
    wpAny (model Prg w) (ktrTop dp un gd cn cs L a ccd cl outer) (call (.ref f) args) Q E s :=
  C.use B F X N T hk k1 k2 k3 fun _ _ h' tk' F' N' P => by
    obtain ⟨rfl, rfl⟩ := P
    exact ret h' tk' F' N'
end
section
set_option maxRecDepth 100000 in
set_option maxHeartbeats 8000000 in
theorem c_item {w : World} {dp un : Nat} {news : Led} {l : Addr} {vs : List Value} {ns : List Int} {n : Nat} {i : Int} {t : Tok} (hd : dp ≤ 400) (ml : (l, W.listOf (List.toArray vs) n) ∈ news) (is : IntsAre vs ns) (h0 : 0 ≤ i) (h1 : i < ns.length) (hz : ns.length ≤ 1000) :
    Ctr w 107 [.ref l, .int i t] dp un news (IntPost (ns.getD i.toNat 0) news) := by
  w_top off
  unfold Ctr Prg; k_fill
  intro gd cn cs ad ccd cl outer A₀ base h₀ L0 m s Q E pg loose mean mg mb B F X N TT hk k1 k2 k3 hret
  refine wpAny_call ?_
  k_dflt (tb_turn [(Str.ofString "a", .ref l), (Str.ofString "b", .int i t)])
  intro g' L' h' FG' F' N' B' X' T'
  dsimp only
  try k_fold
  k_steps
  rename Fr h₀ L0 _ m => kF
  rename News h₀ L0 _ _ => kN
  exact hret _ _ _ _ kF kN ⟨rfl, _, rfl⟩
set_option maxRecDepth 100000 in
set_option maxHeartbeats 8000000 in
theorem c_add {w : World} {dp un : Nat} {news : Led} {a b : Int} {t u : Tok} (hd : dp ≤ 400) :
    Ctr w 86 [.int a t, .int b u] dp un news (IntPost (a + b) news) := by
  w_top off
  unfold Ctr Prg; k_fill
  intro gd cn cs ad ccd cl outer A₀ base h₀ L0 m s Q E pg loose mean mg mb B F X N TT hk k1 k2 k3 hret
  refine wpAny_call ?_
  k_dflt (tb_turn [(Str.ofString "a", .int a t), (Str.ofString "b", .int b u)])
  intro g' L' h' FG' F' N' B' X' T'
  dsimp only
  try k_fold
  k_steps
  rename Fr h₀ L0 _ m => kF
  rename News h₀ L0 _ _ => kN
  exact hret _ _ _ _ kF kN ⟨rfl, _, rfl⟩
set_option maxRecDepth 100000 in
set_option maxHeartbeats 8000000 in
theorem c_sub {w : World} {dp un : Nat} {news : Led} {a b : Int} {t u : Tok} (hd : dp ≤ 400) :
    Ctr w 100 [.int a t, .int b u] dp un news (IntPost (a - b) news) := by
  w_top off
  unfold Ctr Prg; k_fill
  intro gd cn cs ad ccd cl outer A₀ base h₀ L0 m s Q E pg loose mean mg mb B F X N TT hk k1 k2 k3 hret
  refine wpAny_call ?_
  k_dflt (tb_turn [(Str.ofString "a", .int a t), (Str.ofString "b", .int b u)])
  intro g' L' h' FG' F' N' B' X' T'
  dsimp only
  try k_fold
  k_steps
  rename Fr h₀ L0 _ m => kF
  rename News h₀ L0 _ _ => kN
  exact hret _ _ _ _ kF kN ⟨rfl, _, rfl⟩
set_option maxRecDepth 100000 in
set_option maxHeartbeats 8000000 in
theorem c_gt {w : World} {dp un : Nat} {news : Led} {a b : Int} {t u : Tok} (hd : dp ≤ 400) :
    Ctr w 79 [.int a t, .int b u] dp un news (BoolPost (decide (b < a)) news) := by
  w_top off
  unfold Ctr Prg; k_fill
  intro gd cn cs ad ccd cl outer A₀ base h₀ L0 m s Q E pg loose mean mg mb B F X N TT hk k1 k2 k3 hret
  refine wpAny_call ?_
  k_dflt (tb_turn [(Str.ofString "a", .int a t), (Str.ofString "b", .int b u)])
  intro g' L' h' FG' F' N' B' X' T'
  dsimp only
  try k_fold
  k_steps
  rename Fr h₀ L0 _ m => kF
  rename News h₀ L0 _ _ => kN
  exact hret _ _ _ _ kF kN ⟨rfl, rfl⟩
end
end
end
section
set_option rowWalk.seconds 0
local macro_rules | `(tactic| walk_at "call ref") => `(tactic| (k_here; k_dflt (first | (refine' Ctr.useI (c_item (Nat.le_of_ble_eq_true rfl) ?m ?i ?h0 ?h1 ?z) ?B ?F ?X ?N ?T rfl ?k1 ?k2 ?k3 ?_; (case B => k_asm); (case F => k_asm); (case X => k_asm); (case N => k_asm); (case T => k_asm); (case k1 => assumption); (case k2 => assumption); (case k3 => assumption); (case m => k_mem); (case i => assumption); (case h0 => first | with_reducible assumption | exact Int.natCast_nonneg _ | omega); (case h1 => first | with_reducible assumption | omega); (case z => first | with_reducible assumption | omega); intro _) | (refine' Ctr.useI (c_add (Nat.le_of_ble_eq_true rfl)) ?B ?F ?X ?N ?T rfl ?k1 ?k2 ?k3 ?_; (case B => k_asm); (case F => k_asm); (case X => k_asm); (case N => k_asm); (case T => k_asm); (case k1 => assumption); (case k2 => assumption); (case k3 => assumption); intro _) | (refine' Ctr.useI (c_sub (Nat.le_of_ble_eq_true rfl)) ?B ?F ?X ?N ?T rfl ?k1 ?k2 ?k3 ?_; (case B => k_asm); (case F => k_asm); (case X => k_asm); (case N => k_asm); (case T => k_asm); (case k1 => assumption); (case k2 => assumption); (case k3 => assumption); intro _) | (refine' Ctr.useB (c_gt (Nat.le_of_ble_eq_true rfl)) ?B ?F ?X ?N ?T rfl ?k1 ?k2 ?k3 ?_; (case B => k_asm); (case F => k_asm); (case X => k_asm); (case N => k_asm); (case T => k_asm); (case k1 => assumption); (case k2 => assumption); (case k3 => assumption))); intro h' tk' F' N'))
section
set_option rowWalk.seconds 0
local macro_rules | `(tactic| walk_at "subscriptTail Name UnaryOp ref int") => `(tactic| (k_here; refine back_push (by k_asm) (by k_mem) ?_))

/-! F1 -/
section
set_option rowWalk.seconds 0
def SearchedPost (P K : List Int) (asked : Int) (x : Nat) (news : Led) (r : Value) (news' : Led) : Prop :=
  news' = news ∧ ∃ (v : Nat) (tk : Tok), r = .int v tk ∧ Near (nat P) (fun i => K.getD i 0) asked x v
section

set_option maxRecDepth 100000 in
set_option maxHeartbeats 8000000 in
theorem c_searched {w : World} {un : Nat} {news : Led} {t : Addr} {P D K L : List Int} {x : Nat} {asked : Int} {t1 t2 : Tok} (TA : TreeAt news t P D K L) (G : Good P D K L) (hx : x < P.length) (hask : 0 ≤ asked) :
    Ctr w 135 [.ref t, .int x t1, .int asked t2] 302 un news (SearchedPost P K asked x news) := by
  obtain ⟨lp, ld, lk, ll, vp, vd, vk, vl, np, nd, nk, nl, mt, mp, md, mq, ml, ip, id, ik, il⟩ := TA
  have zk := G.zk
  have zl := G.zl
  have z1 := G.z1
  have GT := G.tr
  w_top off
  unfold Ctr Prg; k_fill
  intro gd cn cs ad ccd cl outer A₀ base h₀ L0 m s Q E pg loose mean mg mb B F X N TT hk k1 k2 k3 hret
  refine wpAny_call ?_
  k_dflt (tb_turn [(Str.ofString "tree", .ref t), (Str.ofString "node", .int x t1), (Str.ofString "asked", .int asked t2)])
  intro g' L' h' FG' F' N' B' X' T'
  dsimp only
  try k_fold
  k_steps
  refine Stop.mk ?_
  rename Fr _ _ _ _ => lF
  rename News _ _ _ _ => lN
  with_unfolding_all refine' ksw_while (fun _ => news) (fun c : Nat × Tok => [(Str.ofString "spot", .int (c.1 : Int) c.2)]) (fun _ => True) [Str.ofString "over"] (fun c => c.1 < P.length ∧ ∃ a, c.1 = up (nat P) a x ∧ ∀ b, b < a → asked < K.getD (up (nat P) b x) 0) (fun c => c.1) (x, t1) lF lN trivial ?kk ⟨hx, 0, rfl, fun b hb => absurd hb (Nat.not_lt_zero b)⟩ ?_
  case kk => kst_all
  clear lF lN
  intro c u h tk hf hp F N
  obtain ⟨y, ty⟩ := c
  dsimp only at F N hp
  obtain ⟨hy, a, ya, hb⟩ := hp
  have hl := G.lpos y hy
  have hl' : 0 ≤ L.getD (Int.toNat (y : Int)) 0 ∧ L.getD (Int.toNat (y : Int)) 0 ≤ y := by rw [Int.toNat_natCast]; exact hl
  have el : L.getD (Int.toNat (y : Int)) 0 = (nat L y : Nat) := by rw [Int.toNat_natCast]; exact nat_cast hl.1
  have ekk : K.getD (Int.toNat (y : Int)) 0 = K.getD y 0 := by rw [Int.toNat_natCast]
  have hk0 := G.k0
  by_cases hgt : asked < K.getD (Int.toNat (y : Int)) 0
  · have hy0 : 0 < y := by
      rcases Nat.eq_zero_or_pos y with e | e
      · subst e; rw [ekk, hk0] at hgt; omega
      · exact e
    have hp := G.par y hy0 hy
    have ep : P.getD (Int.toNat (y : Int)) 0 = (nat P y : Nat) := by rw [Int.toNat_natCast]; exact nat_cast hp.1
    have hb' : ∀ b, b < a + 1 → asked < K.getD (up (nat P) b x) 0 := fun b h => by
      rcases Nat.lt_or_eq_of_le (Nat.le_of_lt_succ h) with h | h
      · exact hb b h
      · rw [h, ← ya, ← ekk]; exact hgt
    have hpl := GT.par y hy0 hy
    have hll := (GT.lt y hy).2 hy0
    by_cases hov : asked < K.getD (L.getD (Int.toNat (y : Int)) 0).toNat 0
    · try ((with_reducible show wpAny _ _ _ _ _ _); k_fold)
      k_steps
      refine Stop.mk ?_
      rename Fr g' L' _ _ => eF
      rename News g' L' _ _ => eN
      refine' ksw_end (nat L y, _) eF eN (fun p hp => hp) trivial (List.forall_mem_cons.mpr ⟨by dsimp only; rw [← el]; rfl, List.forall_mem_nil _⟩) (by intro z h2 h3; simp only [List.forall_mem_cons, List.not_mem_nil, false_implies, implies_true, and_true, ne_eq] at h2; simp only [List.contains_cons, List.contains_nil, Bool.or_false, beq_eq_false_iff_ne, ne_eq] at h3; simp [h2, h3, kstB]) ⟨Nat.lt_trans hll hy, a + (nat D y - J (nat D y)), ?_, ?_⟩ hll
      · dsimp only
        rw [GT.lup y hy, ← up_add, ← ya]
      · intro b hbb
        have h1 := GT.k_mono x hx b (a + (nat D y - J (nat D y))) (Nat.le_of_lt hbb)
        rw [← up_add, ← ya, ← GT.lup y hy] at h1
        have : (L.getD (Int.toNat (y : Int)) 0).toNat = nat L y := by rw [el]; rfl
        rw [this] at hov
        exact Int.lt_of_lt_of_le hov h1
    · try ((with_reducible show wpAny _ _ _ _ _ _); k_fold)
      k_steps
      refine Stop.mk ?_
      rename Fr g' L' _ _ => eF
      rename News g' L' _ _ => eN
      refine' ksw_end (nat P y, _) eF eN (fun p hp => hp) trivial (List.forall_mem_cons.mpr ⟨by dsimp only; rw [← ep]; rfl, List.forall_mem_nil _⟩) (by intro z h2 h3; simp only [List.forall_mem_cons, List.not_mem_nil, false_implies, implies_true, and_true, ne_eq] at h2; simp only [List.contains_cons, List.contains_nil, Bool.or_false, beq_eq_false_iff_ne, ne_eq] at h3; simp [h2, h3, kstB]) ⟨Nat.lt_trans hpl hy, a + 1, ?_, hb'⟩ hpl
      dsimp only
      rw [up_succ, ← ya]
  · try ((with_reducible show wpAny _ _ _ _ _ _); k_fold)
    k_steps
    rename Fr h₀ L0 _ m => kF
    rename News h₀ L0 _ _ => kN
    exact hret _ _ _ _ kF kN ⟨rfl, y, _, rfl, a, ya, by rw [ekk] at hgt; exact Int.not_lt.mp hgt, hb⟩
end
end
end
section
set_option rowWalk.seconds 0
local macro_rules | `(tactic| walk_at "subscriptTail Name UnaryOp ref int") => `(tactic| (k_here; k_dflt (first | refine back_push (by k_asm) (by k_mem) ?_ | (refine back_ints (by k_asm) (by k_mem) (by assumption) (by assumption) ?_; intro _))))
local macro_rules | `(tactic| k_mem) => `(tactic| (refine mem_as ?_; ktr_member))
section
set_option rowWalk.seconds 0
local macro_rules | `(tactic| walk_at "call type:enumerate") => `(tactic| (k_here; k_dflt (refine enum_made (by k_asm) (by k_asm) (by k_mem) ?_); intro _ _ made; exact made))
local macro_rules | `(tactic| walk_at "EnumMade") => `(tactic| assumption)
local macro_rules | `(tactic| walk_at "MidR") => `(tactic| refine stopped ?_)
local macro_rules | `(tactic| walk_at "EnumEnd") => `(tactic| refine stopped ?_)

/-! H1 -/
section
set_option rowWalk.seconds 0
def TreePost (n : Nat) (news : Led) (r : Value) (news' : Led) : Prop :=
  ∃ t P D K L, r = .ref t ∧ TreeAt news' t P D K L ∧ Good P D K L ∧ P.length = n + 1 ∧ ∀ p ∈ news, p ∈ news'
structure TreeInv (news : Led) (lp ld lk ll : Addr) (i : Nat) (nx : Led) : Prop where
  go : ∃ vp vd vk vl np nd nk nl P D K L, nx = (ll, W.listOf (List.toArray vl) nl) :: (lk, W.listOf (List.toArray vk) nk) :: (ld, W.listOf (List.toArray vd) nd) :: (lp, W.listOf (List.toArray vp) np) :: news ∧ IntsAre vp P ∧ IntsAre vd D ∧ IntsAre vk K ∧ IntsAre vl L ∧ Good P D K L ∧ P.length = i + 1
structure MidR (h₀ : Heap) (L : Addr) (m : Str → Option Value) (news : Led) (n : Nat) (s : Shared) (f : Flow) (s₂ : Shared) : Prop where
  next : f = .next
  go : ∃ r t h' tk, s₂ = { s with heap := h', toks := tk } ∧ Fr h₀ L h' (fun y => if y = Str.ofString "parent" then some (.int r t) else m y) ∧ News h₀ L h' news ∧ 0 ≤ r ∧ r < (n : Int)
theorem mid_cut {M : Model} {A : Around} {E : Value → Shared → Prop} {Q : Flow → Shared → Prop} {s : Shared} {env : Env} {st : Stmt} {rest : List Stmt} {h₀ : Heap} {L : Addr} {m : Str → Option Value} {news : Led} {n : Nat}
    (_F : Fr h₀ L s.heap m) (_N : News h₀ L s.heap news) (ht : wpAny M A (exec st env) (MidR h₀ L m news n s) E s)
    (h : ∀ r t h' tk, Fr h₀ L h' (fun y => if y = Str.ofString "parent" then some (.int r t) else m y) → News h₀ L h' news → 0 ≤ r → r < (n : Int) → wpAny M A (execs rest env) Q E { s with heap := h', toks := tk }) :
    wpAny M A (execs (st :: rest) env) Q E s :=
  wpAny_execs_cons (wpAny_mono ht (fun f s₂ c => by
    obtain ⟨rfl, r, t, h', tk, rfl, F', N', r0, r1⟩ := c
    exact h r t h' tk F' N' r0 r1) fun _ _ x => x)
theorem le1000 {a b : Nat} (e : a = b) (h : b ≤ 15) : a ≤ 1000 := by omega
theorem lt_int_of {x : Int} {a b : Nat} (h : 0 ≤ x) (e : a = b) (h1 : x.toNat < b) : x < (a : Int) := by omega
section

set_option maxRecDepth 100000 in
set_option maxHeartbeats 8000000 in
theorem c_tree {w : World} {un : Nat} {news : Led} {dr : Addr} {vs : List Value} {ns : List Int} {nn : Nat} (md : (dr, W.listOf (List.toArray vs) nn) ∈ news) (is : IntsAre vs ns) (hz : ns.length ≤ 14) (hpos : ∀ x ∈ ns, 0 ≤ x) :
    Ctr w 114 [.ref dr] 302 un news (TreePost ns.length news) := by
  w_top off
  unfold Ctr Prg; k_fill
  intro gd cn cs ad ccd cl outer A₀ base h₀ L0 m s Q E pg loose mean mg mb B F X N TT hk k1 k2 k3 hret
  refine wpAny_call ?_
  k_dflt (tb_turn [(Str.ofString "draws", .ref dr)])
  intro g' L' h' FG' F' N' B' X' T'
  dsimp only
  try k_fold
  k_steps
  refine Stop.mk ?_
  rename_i lp _ a1 ld _ a2 lk _ a3 ll _ a4 D0 _ a5 _ _ _ _ _ lF lN
  have b2 : @LT.lt Nat _ lp ld := a2.1
  have b3 : @LT.lt Nat _ ld lk ∧ @LT.lt Nat _ lp lk := ⟨a3.1, a3.2.1⟩
  have b4 : @LT.lt Nat _ lk ll ∧ @LT.lt Nat _ ld ll ∧ @LT.lt Nat _ lp ll := ⟨a4.1, a4.2.1, a4.2.2.1⟩
  have off : ∀ p ∈ news, p.1 ≠ ll ∧ p.1 ≠ lk ∧ p.1 ≠ ld ∧ p.1 ≠ lp := fun p hp =>
    ⟨Nat.ne_of_lt (allLt_mem a4.2.2.2 p hp), Nat.ne_of_lt (allLt_mem a3.2.2 p hp), Nat.ne_of_lt (allLt_mem a2.2 p hp), Nat.ne_of_lt (a1 p hp)⟩
  clear a1 a2 a3 a4 a5
  refine For_enum (l := dr) (items := List.toArray vs) (nn := nn) [Str.ofString "parent", Str.ofString "back", Str.ofString "ahead", Str.ofString "lower", Str.ofString "upper"] lF (news_sub (b := (ll, _) :: (lk, _) :: (ld, _) :: (lp, _) :: news) lN (fun p hp => List.mem_cons_of_mem _ hp)) (by with_unfolding_all rfl) (by with_unfolding_all rfl) (by with_unfolding_all rfl) (by with_unfolding_all rfl) (TreeInv news lp ld lk ll) (fun i nx hJ => ?_) ?_ ?_ ?_ ?_
  · obtain ⟨_, _, _, _, _, _, _, _, _, _, _, _, rfl, _⟩ := hJ
    exact List.mem_cons_of_mem _ (List.mem_cons_of_mem _ (List.mem_cons_of_mem _ (List.mem_cons_of_mem _ md)))
  · replace lN := news_sub (b := (ll, _) :: (lk, _) :: (ld, _) :: (lp, _) :: news) lN (fun p hp => List.mem_cons_of_mem _ hp)
    try ((with_reducible show wpAny _ _ _ _ _ _); k_fold)
    k_steps
  · exact ⟨_, _, _, _, _, _, _, _, [0], [0], [0], [0], rfl, .cons _ _ .nil, .cons _ _ .nil, .cons _ _ .nil, .cons _ _ .nil, good_one, rfl⟩
  · intro i v nx own h tk ti u hv hJ hdis F N
    obtain ⟨vp, vd, vk, vl, np, nd, nk, nl, P, D, K, L, rfl, ip, id, ik, il, G, hlen⟩ := hJ
    clear lF lN
    have zvp := ints_len ip
    have zvd := ints_len id
    have zvk := ints_len ik
    have zvl := ints_len il
    have zd := G.zd
    have zk := G.zk
    have zl := G.zl
    have hi : i < ns.length := by
      have := (Array.getElem?_eq_some_iff.mp hv).1
      rw [List.size_toArray, ints_len is] at this
      exact this
    obtain ⟨tv, ev⟩ := is.get i ns[i] (by simp [hi])
    have hnum : 0 ≤ ns[i] := hpos _ (List.getElem_mem hi)
    generalize ns[i] = number at ev hnum
    have hv' : v = .int number tv := by
      have h2 : vs[i]? = some v := by simpa using hv
      rw [ev] at h2
      exact (Option.some.inj h2).symm
    subst hv'
    simp only [List.cons_append] at N
    obtain ⟨T, eT⟩ : ∃ T, T = news ++ own := ⟨_, rfl⟩
    rw [← eT] at N
    have offT : OwnOff T [ll, lk, ld, lp] := fun p hp x hx => by
      rw [eT] at hp
      have : p.1 ≠ ll ∧ p.1 ≠ lk ∧ p.1 ≠ ld ∧ p.1 ≠ lp := by
        rcases List.mem_append.mp hp with hp | hp
        · exact off p hp
        · exact ⟨fun e => hdis _ (List.mem_cons_self ..) p hp e.symm, fun e => hdis _ (List.mem_cons_of_mem _ (List.mem_cons_self ..)) p hp e.symm, fun e => hdis _ (List.mem_cons_of_mem _ (List.mem_cons_of_mem _ (List.mem_cons_self ..))) p hp e.symm, fun e => hdis _ (List.mem_cons_of_mem _ (List.mem_cons_of_mem _ (List.mem_cons_of_mem _ (List.mem_cons_self ..)))) p hp e.symm⟩
      simp only [List.mem_cons, List.not_mem_nil, or_false] at hx
      rcases hx with rfl | rfl | rfl | rfl
      · exact this.1
      · exact this.2.1
      · exact this.2.2.1
      · exact this.2.2.2
    refine mid_cut (n := P.length) F N ?_ ?_
    · have hr0 : 0 ≤ (number.fdiv 4).fmod ((i : Int) + 1) := Int.fmod_nonneg_of_pos _ (by omega)
      have hr1 : (number.fdiv 4).fmod ((i : Int) + 1) < (i : Int) + 1 := Int.fmod_lt_of_pos _ (by omega)
      by_cases hq : number.fmod 4 < 3
      · try ((with_reducible show wpAny _ _ _ _ _ _); k_fold)
        k_steps
        refine Stop.mk ?_
        exact ⟨rfl, _, _, _, _, rfl, by assumption, by assumption, by omega, by omega⟩
      · try ((with_reducible show wpAny _ _ _ _ _ _); k_fold)
        k_steps
        refine Stop.mk ?_
        exact ⟨rfl, _, _, _, _, rfl, by assumption, by assumption, hr0, by omega⟩
    · clear F N
      intro r tr h2 tk2 F N r0 r1
      have rn : r.toNat < P.length := by omega
      have l1 := G.lpos r.toNat rn
      have m1 := nat_le l1 rn
      have l2 := G.lpos (L.getD r.toNat 0).toNat m1
      have m2 := nat_le l2 m1
      have zD := le1000 zd G.z1
      have zK := le1000 zk G.z1
      have zL := le1000 zl G.z1
      have rD : r < (D.length : Int) := by rw [zd]; exact r1
      have rK : r < (K.length : Int) := by rw [zk]; exact r1
      have rL : r < (L.length : Int) := by rw [zl]; exact r1
      have l10 := l1.1
      have l20 := l2.1
      have l1D := lt_int_of l10 zd m1
      have l1L := lt_int_of l10 zl m1
      have l2D := lt_int_of l20 zd m2
      have hinc : 0 ≤ (number.fdiv 64).fmod 5 := Int.fmod_nonneg_of_pos _ (by decide)
      have GS := good_snoc G (by omega) r _ r0 r1 hinc
      by_cases he : D.getD r.toNat 0 - D.getD (L.getD r.toNat 0).toNat 0 = D.getD (L.getD r.toNat 0).toNat 0 - D.getD (L.getD (L.getD r.toNat 0).toNat 0).toNat 0
      · rw [if_pos he] at GS
        try ((with_reducible show wpAny _ _ _ _ _ _); k_fold)
        k_steps
        refine Stop.mk ?_
        rename Fr g' L' _ _ => eF
        rename News g' L' _ _ => eN
        simp only [List.push_toArray] at eN
        refine' EnumEnd.mk rfl ⟨_, _, _, _, (ll, W.listOf (List.toArray (vl ++ [_])) (nl + 1)) :: (lk, W.listOf (List.toArray (vk ++ [_])) (nk + 1)) :: (ld, W.listOf (List.toArray (vd ++ [_])) (nd + 1)) :: (lp, W.listOf (List.toArray (vp ++ [_])) (np + 1)) :: news, rfl, eF, eN, ?hn, ?hown, ?hdis, ?hm, ?hJ⟩
        case hn =>
          refine List.forall_mem_cons.mpr ⟨by k_mem, List.forall_mem_cons.mpr ⟨by k_mem, List.forall_mem_cons.mpr ⟨by k_mem, List.forall_mem_cons.mpr ⟨by k_mem, fun p hp => ?_⟩⟩⟩⟩
          rw [eT]; simp [hp]
        case hown => intro p hp; rw [eT]; simp [hp]
        case hdis => exact List.forall_mem_cons.mpr ⟨fun q hq => hdis (ll, W.listOf (List.toArray vl) nl) (by simp) q hq, List.forall_mem_cons.mpr ⟨fun q hq => hdis (lk, W.listOf (List.toArray vk) nk) (by simp) q hq, List.forall_mem_cons.mpr ⟨fun q hq => hdis (ld, W.listOf (List.toArray vd) nd) (by simp) q hq, List.forall_mem_cons.mpr ⟨fun q hq => hdis (lp, W.listOf (List.toArray vp) np) (by simp) q hq, fun p hp q hq => hdis p (by simp [hp]) q hq⟩⟩⟩⟩
        case hm =>
          intro z h1 h2 h3
          have h3' := h3
          simp only [List.contains_cons, List.contains_nil, Bool.or_false, Bool.or_eq_false_iff, beq_eq_false_iff_ne, ne_eq] at h3
          simp [h1, h2, h3]
        case hJ => exact ⟨_, _, _, _, _, _, _, _, _, _, _, _, rfl, ints_snoc ip, ints_snoc id, ints_snoc ik, ints_snoc il, GS, by simp [hlen]⟩
      · rw [if_neg he] at GS
        try ((with_reducible show wpAny _ _ _ _ _ _); k_fold)
        k_steps
        refine Stop.mk ?_
        rename Fr g' L' _ _ => eF
        rename News g' L' _ _ => eN
        simp only [List.push_toArray] at eN
        refine' EnumEnd.mk rfl ⟨_, _, _, _, (ll, W.listOf (List.toArray (vl ++ [_])) (nl + 1)) :: (lk, W.listOf (List.toArray (vk ++ [_])) (nk + 1)) :: (ld, W.listOf (List.toArray (vd ++ [_])) (nd + 1)) :: (lp, W.listOf (List.toArray (vp ++ [_])) (np + 1)) :: news, rfl, eF, eN, ?hn, ?hown, ?hdis, ?hm, ?hJ⟩
        case hn =>
          refine List.forall_mem_cons.mpr ⟨by k_mem, List.forall_mem_cons.mpr ⟨by k_mem, List.forall_mem_cons.mpr ⟨by k_mem, List.forall_mem_cons.mpr ⟨by k_mem, fun p hp => ?_⟩⟩⟩⟩
          rw [eT]; simp [hp]
        case hown => intro p hp; rw [eT]; simp [hp]
        case hdis => exact List.forall_mem_cons.mpr ⟨fun q hq => hdis (ll, W.listOf (List.toArray vl) nl) (by simp) q hq, List.forall_mem_cons.mpr ⟨fun q hq => hdis (lk, W.listOf (List.toArray vk) nk) (by simp) q hq, List.forall_mem_cons.mpr ⟨fun q hq => hdis (ld, W.listOf (List.toArray vd) nd) (by simp) q hq, List.forall_mem_cons.mpr ⟨fun q hq => hdis (lp, W.listOf (List.toArray vp) np) (by simp) q hq, fun p hp q hq => hdis p (by simp [hp]) q hq⟩⟩⟩⟩
        case hm =>
          intro z h1 h2 h3
          have h3' := h3
          simp only [List.contains_cons, List.contains_nil, Bool.or_false, Bool.or_eq_false_iff, beq_eq_false_iff_ne, ne_eq] at h3
          simp [h1, h2, h3]
        case hJ => exact ⟨_, _, _, _, _, _, _, _, _, _, _, _, rfl, ints_snoc ip, ints_snoc id, ints_snoc ik, ints_snoc il, GS, by simp [hlen]⟩
  · intro nx h tk u hJ F N
    obtain ⟨vp, vd, vk, vl, np, nd, nk, nl, P, D, K, L, rfl, ip, id, ik, il, G, hlen⟩ := hJ
    clear lF lN
    try k_fold
    k_steps
    rename Fr h₀ L0 _ m => kF
    rename News h₀ L0 _ _ => kN
    rw [List.size_toArray, ints_len is] at hlen
    exact hret _ _ _ _ kF kN ⟨_, P, D, K, L, rfl, ⟨lp, ld, lk, ll, vp, vd, vk, vl, np, nd, nk, nl, by k_mem, by k_mem, by k_mem, by k_mem, by k_mem, ip, id, ik, il⟩, G, hlen, fun p hp => by simp [hp]⟩
end
end
end
section
set_option rowWalk.seconds 0
local macro_rules | `(tactic| walk_at "call builtin:len") => `(tactic| (k_here; k_dflt (refine len_ints_fit (lst (by k_asm) (by k_mem)) (by assumption) (by first | omega | decide | (simp only [List.length_cons, List.length_nil]; omega)) ?_)))
section
set_option rowWalk.seconds 0
local macro_rules | `(tactic| walk_at "call builtin:sum") => `(tactic| (k_here; k_dflt (refine sumK (by with_unfolding_all rfl) (by k_asm) (by k_asm) (lst (by k_asm) (by k_mem)) (by assumption) ?_); intro _ _ _ _ _))
local macro_rules | `(tactic| walk_at "exec If") => `(tactic| refine stopped ?_)
local macro_rules | `(tactic| walk_at "CutF") => `(tactic| refine stopped ?_)
local macro_rules | `(tactic| walk_at "subscriptTail Name Slice ref ref") => `(tactic| (k_here; k_dflt (refine' slice_back ?F ?N ?m ?p ?q ?i ?e ?z ?_ ?s ?t; (case F => k_asm); (case N => k_asm); (case m => k_mem); (case p => kmk_part); (case q => kmk_part); (case i => assumption); (case e => assumption); (case z => omega); (case s => with_unfolding_all rfl); (case t => kmk_pure)); intro D' ws' h' F' N' l1 hI'; (try k_lt l1)))
local macro_rules | `(tactic| walk_at "binaryOp Mult ref int") => `(tactic| (k_here; k_dflt (refine KM.mul (by k_asm) (by k_asm) (lst (by k_asm) (by k_mem)) (IntsAre.cons _ _ IntsAre.nil) (by omega) (by omega) (by simp only [List.length_cons, List.length_nil, Nat.zero_add, Nat.one_mul]; omega) ?_); intro D' h' F' N' l1 hI' n' _ _ _ _; (try k_lt l1)))
local macro_rules | `(tactic| walk_at "compareOp NotEq ref ref") => `(tactic| (k_here; k_dflt (refine ne_same (by k_asm) (by k_mem) (by assumption) (by k_mem) (by assumption) (by dsimp only [Around.deeper, ktrTop]; rw [cLine_is]; omega) (by assumption) ?_)))
local macro_rules | `(tactic| walk_at "compareOp NotIn int ref") => `(tactic| (k_here; k_dflt (refine notin_two (by k_asm) (by k_mem) (by assumption) ?_)))
local macro_rules | `(tactic| walk_at "call ref") => `(tactic| ((with_reducible show wpAny _ _ (call (Value.ref 121) _) _ _ _); refine stopped ?_))

/-! G1 -/
section
set_option rowWalk.seconds 0
def ToldPost (news : Led) (r : Value) (news' : Led) : Prop :=
  r = .bool true ∧ Tabs false news' ∧ ∀ p ∈ news, p.1 ≠ 39 → p.1 ≠ 46 → p ∈ news'
section
set_option maxRecDepth 100000 in
set_option maxHeartbeats 8000000 in
theorem c_told {w : World} {un : Nat} {c : Bool} {news : Led} {t wy : Addr} {P D K L : List Int} {vw : List Value} {nw : Nat} {x : Nat} {t1 : Tok} (TA : TreeAt news t P D K L) (G : Good P D K L) (hx : x < P.length) (hx0 : 0 < x)
    (mw : (wy, W.listOf (List.toArray vw) nw) ∈ news) (iw : IntsAre vw (wayOf (nat P) (nat D) x)) (hc : Tabs c news) (hcold : c = true → nat D x = 1) (hu : un ≤ 100) :
    Ctr w 128 [.ref t, .int x t1, .ref wy] 302 un news (ToldPost news) := by
  obtain ⟨lp, ld, lk, ll, vp, vd, vk, vl, np, nd, nk, nl, mt, mp, md, mq, ml, ip, id, ik, il⟩ := TA
  have zd := G.zd
  have zk := G.zk
  have zl := G.zl
  have z1 := G.z1
  have GT := G.tr
  have ed : D.getD (Int.toNat (x : Int)) 0 = (nat D x : Nat) := by rw [Int.toNat_natCast]; exact nat_cast (G.dpos x hx)
  have hd14 := GT.d14 hx
  have hd0 : 0 < nat D x := by
    rcases Nat.eq_zero_or_pos (nat D x) with e | e
    · have := GT.root hx e; omega
    · exact e
  w_top off
  unfold Ctr Prg; k_fill
  intro gd cn cs ad ccd cl outer A₀ base h₀ L0 m s Q E pg loose mean mg mb B F X N TT hk k1 k2 k3 hret
  refine wpAny_call ?_
  k_dflt (tb_turn [(Str.ofString "tree", .ref t), (Str.ofString "node", .int x t1), (Str.ofString "way", .ref wy)])
  intro g' L' h' FG' F' N' B' X' T'
  dsimp only
  try k_fold
  k_steps
  refine Stop.mk ?_
  rename Fr g' L' _ _ => lF
  rename News g' L' _ _ => lN
  refine Ctr.use (c_divided (c := c) hc (fun e => by rw [ed, hcold e]; rfl) (by omega) (by omega)) B' lF X' lN T' rfl k1 k2 k3 ?_
  intro r news' h2 tk2 F2 N2 P2
  obtain ⟨q, fl, wl, fv, wv, nf, nw2, rfl, hq, mf, mwl, if1, iw1, hT, hk2⟩ := P2
  have hne : ∀ a its n, (a, W.listOf its n) ∈ news → a ≠ 39 ∧ a ≠ 46 := fun a its n hm => by
    obtain ⟨o1, h1⟩ : ∃ ps, (39, tabObj ps) ∈ news := by
      cases c with
      | true => exact ⟨_, hc.1⟩
      | false => obtain ⟨_, _, _, _, h, _⟩ := hc; exact ⟨_, h⟩
    obtain ⟨o2, h2⟩ : ∃ ps, (46, tabObj ps) ∈ news := by
      cases c with
      | true => exact ⟨_, hc.2⟩
      | false => obtain ⟨_, _, _, _, _, h, _⟩ := hc; exact ⟨_, h⟩
    refine ⟨fun e => ?_, fun e => ?_⟩
    · have := congrArg (fun p : Addr × Obj => p.2.data) (same_obj N hm h1 e)
      cases this
    · have := congrArg (fun p : Addr × Obj => p.2.data) (same_obj N hm h2 e)
      cases this
  have keep : ∀ a its n, (a, W.listOf its n) ∈ news → (a, W.listOf its n) ∈ news' := fun a its n hm => hk2 _ hm (hne a its n hm).1 (hne a its n hm).2
  have hk3 : ∀ p ∈ news, p.1 ≠ 39 → p.1 ≠ 46 → p ∈ news' := hk2
  replace mp := keep _ _ _ mp
  replace md := keep _ _ _ md
  replace mq := keep _ _ _ mq
  replace ml := keep _ _ _ ml
  replace mw := keep _ _ _ mw
  clear lF lN keep
  obtain ⟨ff1, ff2, ff3, ff4, ff5, ff6⟩ := figs_facts ⟨nat D x, by omega⟩ hd0
  dsimp only at ff1 ff2 ff3 ff4 ff5 ff6
  rw [← ed] at ff1 ff2 ff3 ff4 ff5 ff6
  have hJ := J_le ⟨nat D x, by omega⟩
  dsimp only at hJ
  have hFl : (figs (D.getD (Int.toNat (x : Int)) 0)).length ≤ 5 := figs_len _
  have hFl0 : 0 < (figs (D.getD (Int.toNat (x : Int)) 0)).length := by
    rcases Nat.eq_zero_or_pos (figs (D.getD (Int.toNat (x : Int)) 0)).length with e | e
    · exact absurd (List.length_eq_zero_iff.mp e) ff5
    · exact e
  have hEq : (figs (D.getD (Int.toNat (x : Int)) 0)).dropLast = (List.replicate (((figs (D.getD (Int.toNat (x : Int)) 0)).length : Int) - 1).toNat [1]).flatten := by
    rw [ff1, show (((figs (D.getD (Int.toNat (x : Int)) 0)).length : Int) - 1).toNat = (figs (D.getD (Int.toNat (x : Int)) 0)).length - 1 by omega]
    generalize (figs (D.getD (Int.toNat (x : Int)) 0)).length - 1 = k
    induction k with
    | zero => rfl
    | succ k ih => rw [List.replicate_succ, List.replicate_succ, List.flatten_cons, ← ih]; rfl
  have zw := way_len (p := nat P) (d := nat D) (x := x)
  dsimp only
  try ((with_reducible show wpAny _ _ _ _ _ _); k_fold)
  k_steps
  refine Stop.mk ?_
  rename Fr g' L' _ _ => lF
  rename News g' L' _ _ => lN
  refine if_cut lF lN ?_ ?_
  · try ((with_reducible show wpAny _ _ _ _ _ _); k_fold)
    k_steps
    refine Stop.mk ?_
    refine ⟨?_, _, _, rfl, by assumption, by assumption⟩
    have ei : (((wayOf (nat P) (nat D) x).length : Int) - 1 - (wts (D.getD (Int.toNat (x : Int)) 0)).getLastD 0).toNat = J (nat D x) := by rw [zw, ff4, ed]; omega
    have el : L.getD (Int.toNat (x : Int)) 0 = ((up (nat P) (nat D x - J (nat D x)) x : Nat) : Int) := by
      rw [Int.toNat_natCast, nat_cast (G.lpos x hx).1, GT.lup x hx]
    rw [ei, way_at hJ, el]
    exact bne_self_eq_false _
  · clear lF lN
    intro h3 tk3 lF lN
    try k_fold
    k_steps
    refine Stop.mk ?_
    refine if_cut lF lN ?_ ?_
    · try ((with_reducible show wpAny _ _ _ _ _ _); k_fold)
      k_steps
      refine Stop.mk ?_
      refine ⟨?_, _, _, rfl, by assumption, news_sub (by assumption) ?_⟩
      · rfl
      · intro p hp; simp [hp]
    · clear lF lN
      intro h4 tk4 lF lN
      try k_fold
      k_steps
      refine Stop.mk ?_
      rename Fr g' L' _ _ => lF
      rename News g' L' _ _ => lN
      with_unfolding_all refine' ksw_while (fun _ => news') (fun c : Nat × Int × Tok × Tok => [(Str.ofString "spot", .int (c.1 : Int) c.2.2.1), (Str.ofString "leapt", .int c.2.1 c.2.2.2)]) (fun _ => True) [] (fun c => c.1 < P.length ∧ c.2.1 + (figs (nat D c.1 : Nat)).sum = (figs (nat D x : Nat)).sum) (fun c => c.1) (x, 0, _, _) lF (news_sub lN (by intro p hp; simp [hp])) trivial ?kk ⟨hx, Int.zero_add _⟩ ?_
      case kk => kst_all
      clear lF lN
      intro c u h tk hf hp F N
      obtain ⟨y, n, ty, tn⟩ := c
      dsimp only at F N hp
      obtain ⟨hy, hn⟩ := hp
      have hl := G.lpos y hy
      have el : L.getD (Int.toNat (y : Int)) 0 = (nat L y : Nat) := by rw [Int.toNat_natCast]; exact nat_cast hl.1
      by_cases hy0 : (y : Int) = 0
      · try ((with_reducible show wpAny _ _ _ _ _ _); k_fold)
        k_steps
        rename Fr h₀ L0 _ m => kF
        rename News h₀ L0 _ _ => kN
        have hy00 : y = 0 := by omega
        subst hy00
        have hd00 : nat D 0 = 0 := GT.d0
        rw [hd00] at hn
        have hs0 : (figs ((0 : Nat) : Int)).sum = 0 := rfl
        refine hret _ _ _ _ kF kN ⟨?_, hT, hk3⟩
        have e : n = (figs (D.getD (Int.toNat (x : Int)) 0)).sum := by rw [ed]; omega
        rw [← e, beq_self_eq_true]
      · have hll := (GT.lt y hy).2 (by omega)
        try ((with_reducible show wpAny _ _ _ _ _ _); k_fold)
        k_steps
        refine Stop.mk ?_
        rename Fr g' L' _ _ => eF
        rename News g' L' _ _ => eN
        refine' ksw_end (nat L y, n + 1, _, _) eF (news_sub eN (by intro p hp; simp [hp])) (fun p hp => hp) trivial (List.forall_mem_cons.mpr ⟨by dsimp only; rw [← el]; rfl, List.forall_mem_cons.mpr ⟨rfl, List.forall_mem_nil _⟩⟩) (by intro z h2 h3; simp only [List.forall_mem_cons, List.not_mem_nil, false_implies, implies_true, and_true, ne_eq] at h2; simp [h2, kstB]) ⟨Nat.lt_trans hll hy, ?_⟩ hll
        dsimp only
        have hd1 : 0 < nat D y := by
          rcases Nat.eq_zero_or_pos (nat D y) with e | e
          · have := GT.root hy e; omega
          · exact e
        have q3 := (figs_facts ⟨nat D y, by have := GT.d14 hy; omega⟩ hd1).2.2.1
        dsimp only at q3
        have q4 := GT.dl y hy
        rw [q4]
        omega
end
end
end
section
set_option rowWalk.seconds 0
local macro_rules | `(tactic| tb_from $t:term) => `(tactic| (refine' code_defC (binds := $t) ?k1 ?k2 ?k3 ?k4 ?k5 ?kA ?kF ?kK ?k6 ?k7 ?k8 ?k9 ?kB ?kD ?_ ?c2 ?c3 ?c4; (case kA => exact rfl); (case kF => exact rfl); (case kK => assumption); (case k1 => k_asm); (case k2 => k_asm); (case k3 => k_asm); (case k4 => k_asm); (case k5 => k_asm); (case k6 => k_is); (case k7 => k_is); (case k8 => ktr_room); (case k9 => exact BindsTo.of_eq rfl); (case kB => exact rfl); (case kD => decide +kernel); (case c2 => exact rfl); (case c3 => exact rfl); (case c4 => exact rfl); k_whole))
local macro_rules | `(tactic| walk_at "eval Lambda") => `(tactic| refine stopped ?_)
local macro_rules | `(tactic| walk_at "exec While Compare cons nil") => `(tactic| refine stopped ?_)

/-! J1 -/
section
set_option rowWalk.seconds 0
abbrev q3 : Str := Str.ofString "_law_halved" ++ Str.ofString ".<locals>." ++ Str.ofString "<lambda>"
abbrev tabL (c : Addr) : Obj := tabObj (#[] ++ #[rawInt 151, rawInt 41, .ref c])
/-- the table of the lambda: cold, warm -/
def TabL : Bool → Led → Prop
  | true, news => (137, tabObj #[]) ∈ news
  | false, news => ∃ c o, (137, tabL c) ∈ news ∧ (c, o) ∈ news ∧ CodeAt c o q3
theorem TabL.mono {b : Bool} {news news' : Led} (h : TabL b news) (hs : ∀ p ∈ news, p ∈ news') : TabL b news' := by
  cases b with
  | true => exact hs _ h
  | false =>
    obtain ⟨c, o, a, b, e⟩ := h
    exact ⟨c, o, hs _ a, hs _ b, e⟩
def HalvedPost (P K : List Int) (asked : Int) (x : Nat) (news : Led) (r : Value) (news' : Led) : Prop :=
  ∃ (v : Nat) (tk : Tok), r = .int v tk ∧ Near (nat P) (fun i => K.getD i 0) asked x v ∧ TabL false news' ∧ ∀ p ∈ news, p.1 ≠ 137 → p ∈ news'
structure BisInv (p d : Nat → Nat) (K : List Int) (asked : Int) (x : Nat) (c : Nat × Nat × Tok × Tok) : Prop where
  le : c.1 ≤ c.2.1
  top : c.2.1 ≤ d x + 1
  low : ∀ j, j < c.1 → K.getD (up p (d x - j) x) 0 ≤ asked
  high : ∀ j, c.2.1 ≤ j → j < d x + 1 → asked < K.getD (up p (d x - j) x) 0
theorem tabG_of {b : Bool} {news : Led} (h : TabL b news) : TabG 137 151 41 q3 b news := by
  cases b with
  | true => exact h
  | false => exact h
section

set_option maxRecDepth 100000 in
set_option maxHeartbeats 8000000 in
theorem c_halved {w : World} {un : Nat} {c : Bool} {news : Led} {t wy : Addr} {P D K L : List Int} {vw : List Value} {nw : Nat} {x : Nat} {asked : Int} {t1 : Tok} (TA : TreeAt news t P D K L) (G : Good P D K L) (hx : x < P.length)
    (mw : (wy, W.listOf (List.toArray vw) nw) ∈ news) (iw : IntsAre vw (wayOf (nat P) (nat D) x)) (hask : 0 ≤ asked) (hc : TabL c news) :
    Ctr w 142 [.ref t, .ref wy, .int asked t1] 302 un news (HalvedPost P K asked x news) := by
  obtain ⟨lp, ld, lk, ll, vp, vd, vk, vl, np, nd, nk, nl, mt, mp, md, mq, ml, ip, id, ik, il⟩ := TA
  have zk := G.zk
  have z1 := G.z1
  have GT := G.tr
  have zw := way_len (p := nat P) (d := nat D) (x := x)
  have hd14 := GT.d14 hx
  have hk0 := G.k0
  w_top off
  unfold Ctr Prg; k_fill
  intro gd cn cs ad ccd cl outer A₀ base h₀ L0 m s Q E pg loose mean mg mb B F X N TT hk k1 k2 k3 hret
  obtain ⟨o137, h137⟩ : ∃ o, (137, o) ∈ news := by
    cases c with
    | true => exact ⟨_, hc⟩
    | false => obtain ⟨_, _, h, _⟩ := hc; exact ⟨_, h⟩
  have hne : ∀ a o its n, (a, (o : Obj)) ∈ news → o.data = .seq its n → a ≠ 137 := fun a o its n hm hd e => by
    obtain ⟨ps, h1⟩ : ∃ ps, (137, tabObj ps) ∈ news := by
      cases c with
      | true => exact ⟨_, hc⟩
      | false => obtain ⟨_, _, h, _⟩ := hc; exact ⟨_, h⟩
    have h2 := congrArg (fun p : Addr × Obj => p.2.data) (same_obj N hm h1 e)
    dsimp only at h2
    rw [hd] at h2
    cases h2
  have nt := hne _ _ _ _ mt rfl
  have nP := hne _ _ _ _ mp rfl
  have nK := hne _ _ _ _ mq rfl
  have nW := hne _ _ _ _ mw rfl
  clear md ml
  refine wpAny_call ?_
  k_dflt (tb_from [(Str.ofString "tree", .ref t), (Str.ofString "way", .ref wy), (Str.ofString "asked", .int asked t1)])
  intro g' L' h' tk' cells' FG' F' N' Y' B' X' T' l1
  k_cells Y'
  simp only [List.cons_append, List.nil_append] at N'
  dsimp only
  have hof : OwnOff news [L' + 1, L' + 2] := fun p hp b hb => by
    have hlt := l1 p hp
    simp only [List.mem_cons, List.not_mem_nil, or_false] at hb
    rcases hb with rfl | rfl
    · exact Nat.ne_of_lt (Nat.lt_succ_of_lt hlt)
    · exact Nat.ne_of_lt (Nat.lt_succ_of_lt (Nat.lt_succ_of_lt hlt))
  have h137L : @LT.lt Nat _ 137 L' := l1 _ h137
  try k_fold
  k_steps
  refine Stop.mk ?_
  rename Fr g' L' _ _ => lF
  rename News g' L' _ _ => lN
  k_dflt (refine' kla_eval ?d0 ?_; (case d0 => exact rfl))
  k_dflt (refine' lam_any (b := c) (P := 137) (c := 141) lF lN T' ?C ?cd ?T ?cl ?_)
  case C => exact CodeHd.keeps k3 (Below.stays B')
  case cd => exact rfl
  case T => exact (tabG_of hc).mono fun p hp => List.mem_cons_of_mem _ hp
  case cl => exact rfl
  intro fl c' oc ctv h2 tk2 news2 F2 N2 mc mtab cat KP lf
  obtain ⟨vs1, tv1, d1, d1'⟩ := cat
  replace mt := KP _ (List.mem_cons_of_mem _ mt) nt
  replace mp := KP _ (List.mem_cons_of_mem _ mp) nP
  replace mq := KP _ (List.mem_cons_of_mem _ mq) nK
  replace mw := KP _ (List.mem_cons_of_mem _ mw) nW
  have mcell := KP _ (List.mem_cons_self ..) (Nat.ne_of_gt (Nat.lt_succ_of_lt h137L))
  clear lF lN hof
  dsimp only
  k_steps
  refine Stop.mk ?_
  rename Fr _ _ _ _ => lF
  rename News _ _ _ _ => lN
  obtain ⟨tl0, el0⟩ := fr_tok lF (y := Str.ofString "lo") (v := 0) ⟨_, rfl⟩
  obtain ⟨th0, eh0⟩ := fr_tok lF (y := Str.ofString "hi") (v := ((wayOf (nat P) (nat D) x).length : Int)) ⟨_, rfl⟩
  with_unfolding_all refine' ksw_while (fun _ => _) (fun c : Nat × Nat × Tok × Tok => [(Str.ofString "lo", .int (c.1 : Int) c.2.2.1), (Str.ofString "hi", .int (c.2.1 : Int) c.2.2.2)]) (fun _ => True) [Str.ofString "mid"] (BisInv (nat P) (nat D) K asked x) (fun c => c.2.1 - c.1) (0, (wayOf (nat P) (nat D) x).length, tl0, th0) lF lN trivial ?kk ⟨Nat.zero_le _, Nat.le_of_eq zw, fun j hj => absurd hj (Nat.not_lt_zero j), fun j h1 h2 => absurd h2 (by dsimp only at h1; omega)⟩ ?_
  case kk => exact List.forall_mem_cons.mpr ⟨el0, List.forall_mem_cons.mpr ⟨eh0, List.forall_mem_nil _⟩⟩
  clear el0 eh0
  clear lF lN
  intro c u h tk hf hp F N
  obtain ⟨lo, hi, tlo, thi⟩ := c
  obtain ⟨hlh, hhn, hlow, hhigh⟩ := hp
  dsimp only at F N hlh hhn hlow hhigh
  by_cases hlt : lo < hi
  · have efd : ((lo : Int) + (hi : Int)).fdiv 2 = (((lo + hi) / 2 : Nat) : Int) := by
      rw [Int.fdiv_eq_ediv_of_nonneg _ (by decide)]; push_cast; rfl
    obtain ⟨md, emd⟩ : ∃ md : Nat, md = (lo + hi) / 2 := ⟨_, rfl⟩
    rw [← emd] at efd
    have hm1 : lo ≤ md := by omega
    have hm2 : md < hi := by omega
    have eW : (wayOf (nat P) (nat D) x).getD (((lo : Int) + (hi : Int)).fdiv 2).toNat 0 = ((up (nat P) (nat D x - md) x : Nat) : Int) := by
      rw [efd, Int.toNat_natCast, way_at (by omega)]
    have hup : up (nat P) (nat D x - md) x < P.length := Nat.lt_of_le_of_lt (GT.up_lt _ _ hx) hx
    have eK : K.getD ((wayOf (nat P) (nat D) x).getD (((lo : Int) + (hi : Int)).fdiv 2).toNat 0).toNat 0 = K.getD (up (nat P) (nat D x - md) x) 0 := by rw [eW, Int.toNat_natCast]
    by_cases hgt : asked < K.getD ((wayOf (nat P) (nat D) x).getD (((lo : Int) + (hi : Int)).fdiv 2).toNat 0).toNat 0
    · k_steps
      refine Stop.mk ?_
      rename Fr _ _ _ _ => eF
      rename News _ _ _ _ => eN
      refine' ksw_end (lo, md, tlo, _) eF eN (fun p hp => hp) trivial (List.forall_mem_cons.mpr ⟨rfl, List.forall_mem_cons.mpr ⟨by dsimp only; rw [← efd]; rfl, List.forall_mem_nil _⟩⟩) (by intro z h2 h3; simp only [List.forall_mem_cons, List.not_mem_nil, false_implies, implies_true, and_true, ne_eq] at h2; simp only [List.contains_cons, List.contains_nil, Bool.or_false, beq_eq_false_iff_ne, ne_eq] at h3; simp [h2, h3, kstB]) ⟨hm1, by dsimp only; omega, hlow, fun j h1 h2 => ?_⟩ (by dsimp only; omega)
      rw [eK] at hgt
      exact Int.lt_of_lt_of_le hgt (GT.k_mono x hx (nat D x - j) (nat D x - md) (by dsimp only at h1; omega))
    · k_steps
      refine Stop.mk ?_
      rename Fr _ _ _ _ => eF
      rename News _ _ _ _ => eN
      have e1 : ((md + 1 : Nat) : Int) = ((lo : Int) + (hi : Int)).fdiv 2 + 1 := by rw [efd]; push_cast; rfl
      refine' ksw_end (md + 1, hi, _, thi) eF eN (fun p hp => hp) trivial (List.forall_mem_cons.mpr ⟨by dsimp only; rw [e1]; rfl, List.forall_mem_cons.mpr ⟨rfl, List.forall_mem_nil _⟩⟩) (by intro z h2 h3; simp only [List.forall_mem_cons, List.not_mem_nil, false_implies, implies_true, and_true, ne_eq] at h2; simp only [List.contains_cons, List.contains_nil, Bool.or_false, beq_eq_false_iff_ne, ne_eq] at h3; simp [h2, h3, kstB]) ⟨by dsimp only; omega, hhn, fun j h1 => ?_, hhigh⟩ (by dsimp only; omega)
      rw [eK] at hgt
      exact Int.le_trans (GT.k_mono x hx (nat D x - md) (nat D x - j) (by dsimp only at h1; omega)) (Int.not_lt.mp hgt)
  · have hlo : 1 ≤ lo := by
      rcases Nat.eq_zero_or_pos lo with e | e
      · have h1 := hhigh 0 (by omega) (by omega)
        rw [Nat.sub_zero, GT.up_root hx, hk0] at h1
        omega
      · exact e
    have eI : ((lo : Int) - 1).toNat = lo - 1 := by omega
    have eW : (wayOf (nat P) (nat D) x).getD ((lo : Int) - 1).toNat 0 = ((up (nat P) (nat D x - (lo - 1)) x : Nat) : Int) := by
      rw [eI, way_at (by omega)]
    k_steps
    rename Fr h₀ L0 _ m => kF
    rename News h₀ L0 _ _ => kN
    rw [eW]
    refine hret _ _ _ _ kF kN ⟨_, _, rfl, ⟨nat D x - (lo - 1), rfl, hlow (lo - 1) (by omega), fun b hb => ?_⟩, ⟨c', oc, List.mem_cons_of_mem _ mtab, List.mem_cons_of_mem _ mc, ⟨vs1, tv1, d1, d1'⟩⟩, fun p hp hn => ?_⟩
    · have h1 := hhigh (nat D x - b) (by omega) (by omega)
      rwa [show nat D x - (nat D x - b) = b by omega] at h1
    · exact List.mem_cons_of_mem _ (KP p (List.mem_cons_of_mem _ hp) hn)
end
end
end

/-! Base5 -/
section
section
variable {h₀ h : Heap} {L : Addr} {news : Led}
theorem Tabs.step {b : Bool} {adr : List Addr} (hT : Tabs b news) (N : News h₀ L h news) (h39 : 39 ∉ adr) (h46 : 46 ∉ adr) (hs : ∀ x ∈ adr, ∃ o, (x, o) ∈ news ∧ NoCode o) {news' : Led} (hk : ∀ p ∈ news, p.1 ∉ adr → p ∈ news') : Tabs b news' := by
  cases b with
  | true => exact ⟨hk _ hT.1 h39, hk _ hT.2 h46⟩
  | false =>
    obtain ⟨c1, o1, c2, o2, a, b, c, d, e, f⟩ := hT
    refine ⟨c1, o1, c2, o2, hk _ a h39, hk _ b h46, hk _ c fun hm => ?_, hk _ d fun hm => ?_, e, f⟩
    · obtain ⟨o, ho, hn⟩ := hs _ hm
      exact code_off N c e ho hn rfl
    · obtain ⟨o, ho, hn⟩ := hs _ hm
      exact code_off N d f ho hn rfl
theorem TabL.step {b : Bool} {adr : List Addr} (hT : TabL b news) (N : News h₀ L h news) (h137 : 137 ∉ adr) (hs : ∀ x ∈ adr, ∃ o, (x, o) ∈ news ∧ NoCode o) {news' : Led} (hk : ∀ p ∈ news, p.1 ∉ adr → p ∈ news') : TabL b news' := by
  cases b with
  | true => exact hk _ hT h137
  | false =>
    obtain ⟨c1, o1, a, b, e⟩ := hT
    refine ⟨c1, o1, hk _ a h137, hk _ b fun hm => ?_, e⟩
    obtain ⟨o, ho, hn⟩ := hs _ hm
    exact code_off N b e ho hn rfl
theorem Tabs.at {b : Bool} (hT : Tabs b news) : (∃ o, (39, o) ∈ news ∧ NoCode o) ∧ ∃ o, (46, o) ∈ news ∧ NoCode o := by
  cases b with
  | true => exact ⟨⟨_, hT.1, noCode_nil⟩, ⟨_, hT.2, noCode_nil⟩⟩
  | false =>
    obtain ⟨c1, o1, c2, o2, a, b, _⟩ := hT
    exact ⟨⟨_, a, noCode_tab _ _ _⟩, ⟨_, b, noCode_tab _ _ _⟩⟩
theorem TabL.at {b : Bool} (hT : TabL b news) : ∃ o, (137, o) ∈ news ∧ NoCode o := by
  cases b with
  | true => exact ⟨_, hT, noCode_nil⟩
  | false =>
    obtain ⟨c1, o1, a, _⟩ := hT
    exact ⟨_, a, noCode_tab _ _ _⟩
/-- an entry that is a list or a tuple goes on -/
def Goes (a b : Led) : Prop := ∀ p ∈ a, (∃ its n, p.2.data = .seq its n) → p ∈ b
theorem TreeAt.goes {a b : Led} {t : Addr} {P D K L : List Int} (h : TreeAt a t P D K L) (g : Goes a b) : TreeAt b t P D K L := by
  obtain ⟨lp, ld, lk, ll, vp, vd, vk, vl, np, nd, nk, nl, x1, x2, x3, x4, x5, r⟩ := h
  exact ⟨lp, ld, lk, ll, vp, vd, vk, vl, np, nd, nk, nl, g _ x1 ⟨_, _, rfl⟩, g _ x2 ⟨_, _, rfl⟩, g _ x3 ⟨_, _, rfl⟩, g _ x4 ⟨_, _, rfl⟩, g _ x5 ⟨_, _, rfl⟩, r⟩
/-- tables are no lists -/
theorem tab_ne {b : Bool} (hT : Tabs b news) (N : News h₀ L h news) {p : Addr × Obj} (hp : p ∈ news) (hs : ∃ its n, p.2.data = .seq its n) : p.1 ≠ 39 ∧ p.1 ≠ 46 := by
  obtain ⟨its, n, hd⟩ := hs
  have key : ∀ y ps, (y, tabObj ps) ∈ news → p.1 ≠ y := fun y ps hy e => by
    have h1 := congrArg (fun p : Addr × Obj => p.2.data) (same_obj N hp hy e)
    dsimp only at h1
    rw [hd] at h1
    cases h1
  cases b with
  | true => exact ⟨key _ _ hT.1, key _ _ hT.2⟩
  | false =>
    obtain ⟨c1, o1, c2, o2, a, b, _⟩ := hT
    exact ⟨key _ _ a, key _ _ b⟩
theorem tabL_ne {b : Bool} (hT : TabL b news) (N : News h₀ L h news) {p : Addr × Obj} (hp : p ∈ news) (hs : ∃ its n, p.2.data = .seq its n) : p.1 ≠ 137 := by
  obtain ⟨its, n, hd⟩ := hs
  have key : ∀ y ps, (y, tabObj ps) ∈ news → p.1 ≠ y := fun y ps hy e => by
    have h1 := congrArg (fun p : Addr × Obj => p.2.data) (same_obj N hp hy e)
    dsimp only at h1
    rw [hd] at h1
    cases h1
  cases b with
  | true => exact key _ _ hT
  | false =>
    obtain ⟨c1, o1, a, _⟩ := hT
    exact key _ _ a
end
structure MainInv (dr t : Addr) (vs : List Value) (nn : Nat) (P D K L : List Int) (i : Nat) (nx : Led) : Prop where
  md : (dr, W.listOf (List.toArray vs) nn) ∈ nx
  ta : TreeAt nx t P D K L
  tb : Tabs (i == 0) nx
  tl : TabL (i == 0) nx
/-- the way as it grows -/
def wayP (p : Nat → Nat) (x m : Nat) : List Int := (List.range (m + 1)).map fun j => ((up p (m - j) x : Nat) : Int)
theorem wayP_len {p : Nat → Nat} {x m : Nat} : (wayP p x m).length = m + 1 := by unfold wayP; rw [List.length_map, List.length_range]
theorem wayP_zero {p : Nat → Nat} {x m : Nat} : (wayP p x m).getD 0 0 = ((up p m x : Nat) : Int) := by
  unfold wayP
  rw [List.getD_eq_getElem?_getD, List.getElem?_map, List.getElem?_range (by omega)]
  rfl
theorem wayP_succ {p : Nat → Nat} {x m : Nat} : wayP p x (m + 1) = [((p (up p m x) : Nat) : Int)] ++ wayP p x m := by
  unfold wayP
  rw [List.range_succ_eq_map, List.map_cons, List.map_map, List.singleton_append]
  congr 1
  · rw [Nat.sub_zero, up_succ]
  · apply List.map_congr_left
    intro j _
    show ((up p (m + 1 - (j + 1)) x : Nat) : Int) = _
    rw [Nat.add_sub_add_right]
theorem wayP_start {p : Nat → Nat} {x : Nat} {t : Tok} : IntsAre [Value.int (x : Int) t] (wayP p x 0) := IntsAre.cons _ _ IntsAre.nil
theorem wayP_all {p d : Nat → Nat} {x : Nat} : wayP p x (d x) = wayOf p d x := rfl
theorem draws_ok {vs : List Value} {script : List Int} (h : IntsAre vs (List.map (fun k' => k'.fmod (10 ^ Int.toNat 6)) (List.take 5 script) ++ [320, 384, 1, 1088, 640, 1856, 2880, 1303, 1920])) :
    ∃ ns : List Int, IntsAre vs ns ∧ ns.length ≤ 14 ∧ ∀ x ∈ ns, 0 ≤ x := by
  refine ⟨_, h, ?_, fun x hx => ?_⟩
  · rw [List.length_append, List.length_map, List.length_take]
    simp only [List.length_cons, List.length_nil]
    omega
  · rcases List.mem_append.mp hx with hx | hx
    · obtain ⟨y, _, rfl⟩ := List.mem_map.mp hx
      exact Int.fmod_nonneg_of_pos _ (by decide)
    · simp only [List.mem_cons, List.not_mem_nil, or_false] at hx
      omega
theorem cons_back {q : Addr × Obj} {a b : Led} (h : ∀ p ∈ q :: a, p ∈ b) : ∀ p ∈ a, p ∈ b := fun p hp => h p (List.mem_cons_of_mem _ hp)
theorem Tabs.tab {b : Bool} {news : Led} (hT : Tabs b news) : (∃ ps, (39, tabObj ps) ∈ news) ∧ ∃ ps, (46, tabObj ps) ∈ news := by
  cases b with
  | true => exact ⟨⟨_, hT.1⟩, ⟨_, hT.2⟩⟩
  | false =>
    obtain ⟨c1, o1, c2, o2, a, b, _⟩ := hT
    exact ⟨⟨_, a⟩, ⟨_, b⟩⟩
theorem TabL.tab {b : Bool} {news : Led} (hT : TabL b news) : ∃ ps, (137, tabObj ps) ∈ news := by
  cases b with
  | true => exact ⟨_, hT⟩
  | false =>
    obtain ⟨c1, o1, a, _⟩ := hT
    exact ⟨_, a⟩
theorem ne_same_int {prog : Program} {w : World} {A : Around} {E : Value → Shared → Prop} {s : Shared} {a b : Int} {t u : Tok} {Q : Value → Shared → Prop} (e : a = b) (h : Q (.bool false) s) : wpAny (model prog w) A (compareOp .NotEq (.int a t) (.int b u)) Q E s := by
  refine ne_int ?_
  have e2 : (a != b) = false := by subst e; exact bne_self_eq_false a
  rw [e2]; exact h
end
section
set_option rowWalk.seconds 0
local macro_rules | `(tactic| walk_at "binaryOp Add ref ref") => `(tactic| (k_here; k_dflt (refine kmk_add_ints (by k_asm) (by k_asm) (lst (by k_asm) (by k_mem)) (lst (by k_asm) (by k_mem)) (IntsAre.cons _ _ IntsAre.nil) (by assumption) ?_ (by rw [sizeLine_eq]; simp only [List.length_cons, List.length_nil]; omega)); intro D' ws' h' F' N' l1 hI'; (try k_lt l1)))
local macro_rules | `(tactic| walk_at "subscriptTail Name Constant ref int") => `(tactic| (k_here; k_dflt (refine item_anyK (lst (by k_asm) (by k_mem)) (by assumption) (by omega) (by omega) (by omega) ?_); intro _))
local macro_rules | `(tactic| walk_at "subscriptTail Name BinOp ref int") => `(tactic| (k_here; k_dflt (refine item_anyK (lst (by k_asm) (by k_mem)) (by assumption) (by omega) (by omega) (by omega) ?_); intro _))
local macro_rules | `(tactic| walk_at "subscriptTail Name Name ref int") => `(tactic| (k_here; k_dflt (refine item_anyK (lst (by k_asm) (by k_mem)) (by assumption) (by omega) (by omega) (by omega) ?_); intro _))
local macro_rules | `(tactic| walk_at "subscriptTail Name Constant ref int") => `(tactic| (k_here; k_dflt (refine' item_tupleT ?t ?a ?b ?c ?d ?_; (case t => exact News.isTup (by k_asm) (by k_mem)); (case a => decide); (case b => decide); (case c => rfl); (case d => rfl); k_whole)))
local macro_rules | `(tactic| walk_at "exec For Name Call cons nil") => `(tactic| refine stopped ?_)
local macro_rules | `(tactic| walk_at "pyIter ref") => `(tactic| ((with_reducible show wpAny _ _ (pyIter (Value.ref _)) (fun it s₂ => LoopAtV _ _ _ _ _ _ _ _ _ it s₂) _ _); refine stopped ?_))
local macro_rules | `(tactic| walk_at "EnumEnd") => `(tactic| refine stopped ?_)
local macro_rules | `(tactic| walk_at "call ref") => `(tactic| first | ((with_reducible show wpAny _ _ (call (Value.ref 114) _) _ _ _); refine stopped ?_) | ((with_reducible show wpAny _ _ (call (Value.ref 128) _) _ _ _); refine stopped ?_) | ((with_reducible show wpAny _ _ (call (Value.ref 135) _) _ _ _); refine stopped ?_) | ((with_reducible show wpAny _ _ (call (Value.ref 142) _) _ _ _); refine stopped ?_))
local macro_rules | `(tactic| walk_at "compareOp NotEq int int") => `(tactic| with_reducible refine ne_same_int rfl ?_)

/-! M1 -/
section
set_option rowWalk.seconds 0
section

set_option maxRecDepth 100000 in
set_option maxHeartbeats 8000000 in
theorem law_holds : PySem.Challenge.rw_wf0047_01.Holds := hd (by
  w_strict (
    k_go0
    (all_goals try k_fold)
    k_steps
    refine Stop.mk ?_
    rename Fr _ _ _ _ => lF
    rename News _ _ _ _ => lN
    rename Frag.In _ _ => lX
    rename Top _ _ _ _ _ _ => lT
    rename Below _ _ _ _ => lB
    rename IntsAre _ (_ ++ _) => hIs
    obtain ⟨ns, is, hz, hpos⟩ := draws_ok hIs
    clear hIs
    refine Ctr.use (c_tree (by k_mem) is hz hpos) lB lF lX lN lT rfl (by assumption) (by assumption) (by assumption) ?_
    intro r news' h2 tk2 F2 N2 P2
    obtain ⟨t, P, D, K, L, rfl, TA, G, hlen, hkeep⟩ := P2
    have md := hkeep _ (List.mem_cons_self ..)
    have m39 : (39, tabObj #[]) ∈ news' := hkeep _ (by k_mem)
    have m46 : (46, tabObj #[]) ∈ news' := hkeep _ (by k_mem)
    have m137 : (137, tabObj #[]) ∈ news' := hkeep _ (by k_mem)
    have I0 : MainInv _ t _ _ P D K L 0 news' := ⟨md, TA, ⟨m39, m46⟩, m137⟩
    clear hkeep lN lF m39 m46 m137
    dsimp only
    try k_fold
    k_steps
    refine Stop.mk ?_
    rename Fr _ _ _ _ => lF
    with_unfolding_all refine' For_invVF lF ?k1 ?k2 ?_
    case k1 => exact rfl
    case k2 => exact rfl
    try ((with_reducible show wpAny _ _ _ _ _ _); k_fold)
    k_steps
    refine Stop.mk ?_
    rename Fr _ _ _ _ => lF
    rename News _ _ _ _ => lN
    rename IsRange _ _ _ _ _ _ _ _ => rgX
    refine loop_led (n := ns.length) [Str.ofString "way", Str.ofString "asked"] (MainInv _ t _ _ P D K L) (by with_unfolding_all rfl) rgX (small_one (by omega) (by omega) (by omega) (by omega)) (by rw [rangeSize_nat]; omega) lF (news_sub lN (by intro p hp; simp [hp])) I0 ?_ ?_
    · clear lF lN rgX I0
      intro i nx own h tk tn u hi hJ hdis hnc F N
      obtain ⟨md', TA', TB, TL⟩ := hJ
      have ex : (1 : Int) + (i : Int) = ((i + 1 : Nat) : Int) := by push_cast; omega
      rw [ex] at F
      obtain ⟨x, hx⟩ : ∃ x, x = i + 1 := ⟨_, rfl⟩
      rw [← hx] at F
      have hxP : x < P.length := by omega
      have hx0 : 0 < x := by omega
      have GT := G.tr
      have z1 := G.z1
      obtain ⟨led, eled⟩ : ∃ led, led = nx ++ own := ⟨_, rfl⟩
      rw [← eled] at N
      have hnl : ∀ p ∈ nx, p ∈ led := fun p hp => by rw [eled]; exact List.mem_append_left _ hp
      have hol : ∀ p ∈ own, p ∈ led := fun p hp => by rw [eled]; exact List.mem_append_right _ hp
      obtain ⟨lp, ld, lk, ll, vp, vd, vk, vl, np, nd, nk, nl, mt, mp, _, mq, _, ip, _, ik, _⟩ := (TA'.mono hnl).go
      have zk := G.zk
      try ((with_reducible show wpAny _ _ _ _ _ _); k_fold)
      k_steps
      refine Stop.mk ?_
      rename Fr _ _ _ _ => lF
      rename News _ _ _ _ => lN
      with_unfolding_all refine' ksw_while (fun c : Addr × List Value × Nat × Nat => (c.1, W.listOf (List.toArray c.2.1) c.2.2.1) :: led) (fun c => [(Str.ofString "way", .ref c.1)]) (fun _ => True) [] (fun c => IntsAre c.2.1 (wayP (nat P) x c.2.2.2) ∧ c.2.2.2 ≤ nat D x) (fun c => nat D x - c.2.2.2) (_, [.int (x : Int) tn], 0, 0) lF lN trivial ?kk ⟨wayP_start, Nat.zero_le _⟩ ?_
      case kk => kst_all
      clear lF lN
      intro c u h tk hf hp F N
      obtain ⟨wy, vw, nw, mm⟩ := c
      obtain ⟨iw, hm⟩ := hp
      dsimp only at F N iw hm
      have zw := wayP_len (p := nat P) (x := x) (m := mm)
      have e0 : (wayP (nat P) x mm).getD (Int.toNat 0) 0 = ((up (nat P) mm x : Nat) : Int) := wayP_zero
      have hup : up (nat P) mm x < P.length := Nat.lt_of_le_of_lt (GT.up_lt _ _ hxP) hxP
      have hd14 := GT.d14 hxP
      by_cases hz0 : up (nat P) mm x = 0
      · have hmd : mm = nat D x := by
          have h1 := GT.d_up mm x hxP hm
          rw [hz0, GT.d0] at h1
          omega
        have hl1 : ∀ p ∈ led, p ∈ (wy, W.listOf (List.toArray vw) nw) :: led := fun p hp => List.mem_cons_of_mem _ hp
        have hn1 : ∀ p ∈ nx, p ∈ (wy, W.listOf (List.toArray vw) nw) :: led := fun p hp => hl1 p (hnl p hp)
        try ((with_reducible show wpAny _ _ _ _ _ _); k_fold)
        k_steps
        refine Stop.mk ?_
        rename Fr _ _ _ _ => lF
        rename News _ _ _ _ => lN
        have iw' : IntsAre vw (wayOf (nat P) (nat D) x) := by rw [← wayP_all, ← hmd]; exact iw
        have hcold : (i == 0) = true → nat D x = 1 := fun e => by
          have e0 : i = 0 := by simpa using e
          have e1 : x = 1 := by omega
          have h1 := GT.dep x hx0 hxP
          have h2 := GT.par x hx0 hxP
          have h3 : nat P x = 0 := by omega
          rw [h3, GT.d0] at h1
          exact h1
        refine Ctr.use (c_told (c := i == 0) (TA'.mono hn1) G hxP hx0 (List.mem_cons_self ..) iw' (TB.mono hn1) hcold (by decide)) lB lF lX lN lT rfl (by assumption) (by assumption) (by assumption) ?_
        intro r1 news1 h1 tk1 F1 NN1 P1
        obtain ⟨rfl, T1, K1⟩ := P1
        have TB1 := TB.mono hn1
        have TL1 := TL.mono hn1
        have L1 : TabL (i == 0) news1 := TL1.step (adr := [39, 46]) lN (by decide) (fun y hy => by
          simp only [List.mem_cons, List.not_mem_nil, or_false] at hy
          rcases hy with rfl | rfl
          · exact TB1.at.1
          · exact TB1.at.2) (fun p hp hn => K1 p hp (fun e => hn (by simp [e])) (fun e => hn (by simp [e])))
        have g1 : Goes ((wy, W.listOf (List.toArray vw) nw) :: led) news1 := fun p hp hs => K1 p hp (tab_ne TB1 lN hp hs).1 (tab_ne TB1 lN hp hs).2
        have TA1 : TreeAt news1 t P D K L := (TA'.mono hn1).goes g1
        have mw1 := g1 _ (List.mem_cons_self ..) ⟨_, _, rfl⟩
        have md1 := g1 _ (hn1 _ md') ⟨_, _, rfl⟩
        have mt1 := g1 _ (hl1 _ mt) ⟨_, _, rfl⟩
        have mq1 := g1 _ (hl1 _ mq) ⟨_, _, rfl⟩
        have ho1 : ∀ q ∈ own, q ∈ news1 := fun q hq => by
          obtain ⟨⟨o1, z1, _⟩, ⟨o2, z2, _⟩⟩ := TB.at
          exact K1 q (hl1 q (hol q hq)) (fun e => hdis _ z1 q hq e.symm) (fun e => hdis _ z2 q hq e.symm)
        have hKx : 0 ≤ K.getD (Int.toNat (x : Int)) 0 := by
          have h1 := GT.k_mono x hxP 0 (nat D x) (Nat.zero_le _)
          rw [GT.up_root hxP, G.k0] at h1
          rw [Int.toNat_natCast]; exact h1
        clear lF lN
        dsimp only
        try ((with_reducible show wpAny _ _ _ _ _ _); k_fold)
        k_steps
        refine Stop.mk ?_
        rename Fr _ _ _ _ => lF
        rename News _ _ _ _ => lN
        have hask : 0 ≤ ((ns.getD ((x : Int) - 1).toNat 0).fdiv 320).fmod (K.getD (Int.toNat (x : Int)) 0 + 2) := Int.fmod_nonneg_of_pos _ (by omega)
        refine Ctr.use (c_searched TA1 G hxP hask) lB lF lX lN lT rfl (by assumption) (by assumption) (by assumption) ?_
        intro r2 news2 h2 tk2 F2 NN2 P2
        obtain ⟨e2, v, tv, rfl, near1⟩ := P2
        subst news2
        clear lF lN
        dsimp only
        try ((with_reducible show wpAny _ _ _ _ _ _); k_fold)
        k_steps
        refine Stop.mk ?_
        refine Ctr.use (c_halved TA1 G hxP mw1 iw' hask L1) lB F2 lX NN2 lT rfl (by assumption) (by assumption) (by assumption) ?_
        intro r3 news3 h3 tk3 F3 NN3 P3
        obtain ⟨v', tv', rfl, near2, L3, K3⟩ := P3
        obtain rfl := near_one near1 near2
        have T3 : Tabs false news3 := T1.step (adr := [137]) NN2 (by decide) (by decide) (fun y hy => by
          simp only [List.mem_cons, List.not_mem_nil, or_false] at hy
          rw [hy]; exact L1.at) (fun p hp hn => K3 p hp (fun e => hn (by simp [e])))
        have g3 : ∀ p ∈ news1, (∃ its n, p.2.data = .seq its n) → p ∈ news3 := fun p hp hs => K3 p hp (tabL_ne L1 NN2 hp hs)
        have ho3 : ∀ q ∈ own, q ∈ news3 := fun q hq => by
          obtain ⟨o1, z1, _⟩ := TL.at
          exact K3 q (ho1 q hq) (fun e => hdis _ z1 q hq e.symm)
        clear F2 NN2
        dsimp only
        try ((with_reducible show wpAny _ _ _ _ _ _); k_fold)
        k_steps
        refine Stop.mk ?_
        rename Fr _ _ _ _ => eF
        rename News _ _ _ _ => eN
        have hno : ∀ p ∈ nx, p.1 ∉ own.map (·.1) := fun p hp hm => by
          obtain ⟨q, hq, e⟩ := List.mem_map.mp hm
          exact hdis p hp q hq e.symm
        obtain ⟨⟨o39, z39, _⟩, ⟨o46, z46, _⟩⟩ := TB.at
        obtain ⟨o137, z137, _⟩ := TL.at
        have hoo : ∀ y ∈ own.map (·.1), ∃ o, (y, o) ∈ news3 ∧ NoCode o := fun y hy => by
          obtain ⟨q, hq, rfl⟩ := List.mem_map.mp hy
          exact ⟨q.2, ho3 q hq, hnc q hq⟩
        have hkk : ∀ p ∈ news3, p.1 ∉ own.map (·.1) → p ∈ keepOff (own.map (·.1)) news3 := fun p hp hn => mem_keepOff.mpr ⟨hp, hn⟩
        have ei : (i + 1 == 0) = false := by simp
        refine' EnumEnd.mk rfl ⟨_, _, _, _, keepOff (own.map (·.1)) news3, rfl, eF, eN, fun p hp => (mem_keepOff.mp hp).1, ho3, fun p hp q hq e => (mem_keepOff.mp hp).2 (by rw [e]; exact List.mem_map_of_mem hq), ?hm, ⟨hkk _ (g3 _ md1 ⟨_, _, rfl⟩) (hno _ md'), TA'.goes fun p hp hs => hkk _ (g3 p (g1 p (hn1 p hp) hs) hs) (hno p hp), ?ht, ?hl⟩⟩
        case ht => rw [ei]; exact T3.step eN (hno _ z39) (hno _ z46) hoo hkk
        case hl => rw [ei]; exact L3.step eN (hno _ z137) hoo hkk
        case hm =>
          intro z h1 h2 h3
          have h3' := h3
          simp only [List.contains_cons, List.contains_nil, Bool.or_false, Bool.or_eq_false_iff, beq_eq_false_iff_ne, ne_eq] at h3
          simp [h1, h2, h3, kstB]
      · try ((with_reducible show wpAny _ _ _ _ _ _); k_fold)
        k_steps
        refine Stop.mk ?_
        rename Fr _ _ _ _ => eF
        rename News _ _ _ _ => eN
        rename IntsAre _ (_ ++ _) => hI
        have hpp := G.par _ (Nat.pos_of_ne_zero hz0) hup
        have ew : wayP (nat P) x (mm + 1) = [P.getD (Int.toNat ((wayP (nat P) x mm).getD (Int.toNat 0) 0)) 0] ++ wayP (nat P) x mm := by
          rw [wayP_succ, e0, Int.toNat_natCast, nat_cast hpp.1]
        rw [← ew] at hI
        have hlt : mm < nat D x := by
          rcases Nat.lt_or_eq_of_le hm with h | h
          · exact h
          · exact absurd (by rw [h]; exact GT.up_root hxP) hz0
        refine' ksw_end (_, _, 0, mm + 1) eF eN ?hn trivial ?kk (by intro z h2 h3; simp only [List.forall_mem_cons, List.not_mem_nil, false_implies, implies_true, and_true, ne_eq] at h2; simp [h2, kstB]) ⟨hI, hlt⟩ (by dsimp only; omega)
        case kk => kst_all
        case hn => intro p hp; simp only [List.mem_cons] at hp ⊢; rcases hp with h | h <;> simp [h]
    · clear lF lN rgX I0
      intro nx h tk u hJ F N
      obtain ⟨md', TA', TB, TL⟩ := hJ
      obtain ⟨⟨p1, g1⟩, ⟨p2, g2⟩⟩ := TB.tab
      obtain ⟨p3, g3⟩ := TL.tab
      have GA : GrownAll [(141, 137), (50, 46), (43, 39)] h := ⟨GrownAt.of N g3, GrownAt.of N g2, GrownAt.of N g1, trivial⟩
      clear TB TL TA' G g1 g2 g3
      try k_fold
      iterate 4 (first | walk1 | (dsimp only; walk1))
      all_goals first | exact GA | (dsimp only; wrow_close)))
end
end
end
end
end
end
end
end
end Mine

theorem PySem.Challenge.cw_wf0047_01_holds : PySem.Challenge.rw_wf0047_01.Holds :=
  Mine.law_holds
