import PyProof.Rows.All
import Wide.All
import OpenK.AllK
import Wide.FinOn
import PySem.Challenge.RW_hi0001_01
set_option Elab.async false
section
open PySem PySem.W PyProof.Rows
set_option Elab.async false
namespace Mine
set_option maxRecDepth 100000 in
set_option maxHeartbeats 8000000 in
open_top hd for PySem.Challenge.rw_hi0001_01
end Mine
end
section
open PySem PySem.W PySem.Spec PySem.Calls PyProof.Rows
set_option Elab.async false
namespace Mine
/-- the figures by two of x, the least first, k of them -/
def bits : Nat → Nat → List Int
  | 0, _ => []
  | k + 1, x => ((x % 2 : Nat) : Int) :: bits k (x / 2)
/-- ns with ms laid over it from place i on -/
def over (ns : List Int) (i : Nat) (ms : List Int) : List Int := ns.take i ++ (ms ++ ns.drop (i + ms.length))
theorem bits_length : ∀ k x, (bits k x).length = k
  | 0, _ => rfl
  | k + 1, x => by rw [bits, List.length_cons, bits_length k]
theorem bits_split : ∀ k j x, bits (k + j) x = bits k (x % 2 ^ k) ++ bits j (x / 2 ^ k)
  | 0, j, x => by simp [bits]
  | k + 1, j, x => by
    have e : k + 1 + j = (k + j) + 1 := by omega
    rw [e, bits, bits_split k j (x / 2), bits]
    have h1 : x % 2 ^ (k + 1) % 2 = x % 2 := Nat.mod_mod_of_dvd x ⟨2 ^ k, by rw [Nat.pow_succ, Nat.mul_comm]⟩
    have h2 : x % 2 ^ (k + 1) / 2 = x / 2 % 2 ^ k := by rw [Nat.pow_succ, Nat.mul_comm, Nat.mod_mul_right_div_self]
    have h3 : x / 2 / 2 ^ k = x / 2 ^ (k + 1) := by rw [Nat.div_div_eq_div_mul, Nat.pow_succ, Nat.mul_comm]
    rw [h1, h2, h3]
    rfl
theorem over_length {ns ms : List Int} {i : Nat} (h : i + ms.length ≤ ns.length) : (over ns i ms).length = ns.length := by
  simp only [over, List.length_append, List.length_take, List.length_drop]; omega
theorem over_over {ns as bs : List Int} {i : Nat} (h : i + as.length + bs.length ≤ ns.length) : over (over ns i as) (i + as.length) bs = over ns i (as ++ bs) := by
  have hi : (ns.take i).length = i := by rw [List.length_take]; omega
  have hs : i + as.length = ((ns.take i ++ as).length) := by rw [List.length_append, hi]
  unfold over
  rw [← List.append_assoc (ns.take i) as, hs, List.take_left, List.drop_append, List.drop_eq_nil_of_le (Nat.le_add_right _ _), List.nil_append, List.drop_drop]
  rw [List.append_assoc, List.append_assoc (as := as), List.length_append, List.length_append, hi]
  congr 4
  omega
theorem set_over {ns : List Int} {i : Nat} {x : Int} (h : i < ns.length) : ns.set i x = over ns i [x] := by
  rw [over, List.set_eq_take_append_cons_drop, if_pos h]
  rfl
theorem and_up (x k : Nat) : x &&& (x / 2 ^ k * 2 ^ k) = x / 2 ^ k * 2 ^ k := by
  refine Nat.eq_of_testBit_eq fun i => ?_
  rw [Nat.testBit_and, Nat.testBit_mul_two_pow, Nat.testBit_div_two_pow]
  by_cases h : k ≤ i
  · simp [h]
  · simp [h]
theorem up_eq (x k : Nat) : ((x : Nat) : Int).fdiv (2 ^ ((k : Nat) : Int).toNat) = ((x / 2 ^ k : Nat) : Int) := by
  rw [Int.toNat_natCast, Int.fdiv_eq_ediv_of_nonneg _ (Int.le_of_lt (Int.pow_pos (by decide)))]
  rw [Int.natCast_ediv, Int.natCast_pow]
  rfl
theorem low_eq (x k : Nat) : Builtin.bitXor (x : Int) (((x / 2 ^ k : Nat) : Int) * 2 ^ ((k : Nat) : Int).toNat) = ((x % 2 ^ k : Nat) : Int) := by
  have e : ((x / 2 ^ k : Nat) : Int) * 2 ^ ((k : Nat) : Int).toNat = ((x / 2 ^ k * 2 ^ k : Nat) : Int) := by
    rw [Int.toNat_natCast, Int.natCast_mul, Int.natCast_pow]; rfl
  rw [e, bitXor_and, bitAnd_pp (Int.natCast_nonneg _) (Int.natCast_nonneg _), Int.toNat_natCast, Int.toNat_natCast, and_up]
  have h := Nat.div_add_mod x (2 ^ k)
  rw [Nat.mul_comm] at h
  generalize x / 2 ^ k * 2 ^ k = y at *
  omega
theorem mid_eq (lo : Int) (sz : Nat) : (lo + (lo + (sz : Int))).fdiv (2 ^ Int.toNat 1) = lo + ((sz / 2 : Nat) : Int) := by
  show (lo + (lo + (sz : Int))).fdiv 2 = _
  rw [Int.fdiv_eq_ediv_of_nonneg _ (by decide)]
  omega
end Mine
end
section
open PySem PySem.W PySem.Spec PySem.Calls PyProof.Rows
set_option Elab.async false
set_option maxRecDepth 100000
namespace Mine
abbrev prg : Program := PySem.Challenge.rw_hi0001_01.row.prog
def nthS (l : List Stmt) (k : Nat) : Stmt := l.getD k (.Pass default)
def bodyOf : Stmt → List Stmt
  | .FunctionDef _ _ b _ _ _ _ _ _ _ => b
  | _ => []
def i2dS : Stmt := nthS PySem.Challenge.pw_hi0001_01.main.body 1
def inner1S : Stmt := nthS (bodyOf i2dS) 1
def d2iS : Stmt := nthS PySem.Challenge.pw_hi0001_01.main.body 2
def inner2S : Stmt := nthS (bodyOf d2iS) 0
abbrev fnIn1 (name qual : Str) (params : Arguments) (body : List Stmt) (scope : Scope) (doc pm ctv : Value) (c' cA cI cN : Addr) : Obj :=
  fnMade name qual params body scope [(PySem.Str.ofString "n", cN), (PySem.Str.ofString "inner", cI), (PySem.Str.ofString "a_digits", cA)] doc pm c' ctv
abbrev led1 (f D c' cA cI cN P : Addr) (fo oc oA oI oN oT : Obj) (rest : List (Addr × Obj)) (vs : List Value) (n : Nat) : List (Addr × Obj) :=
  (f, fo) :: (c', oc) :: (D, listOf vs.toArray n) :: (cA, oA) :: (cI, oI) :: (cN, oN) :: (P, oT) :: rest
def Inner1 (w : World) (p : Program) (loose : List Str) (mean : ExcName → Option Value) (mg mb : Str → Option Value) (f D c' cA cI cN P : Addr) (fo oc oA oI oN oT : Obj) (rest : List (Addr × Obj)) (sz : Nat) : Prop :=
  ∀ (dp un : Nat) (gd : Option (List Code)) (cn : Str) (cs : Scope) (a : Addr) (ccd : Value) (cl : List (Str × Addr)) (outer : List Env) (A₀ : Around) (base h₀ : Heap) (L : Addr) (m : Str → Option Value) (s : Shared) (Q E : Value → Shared → Prop)
    (vs : List Value) (n : Nat) (ns : List Int) (X lo : Nat) (xi li hi : Int) (t1 t2 t3 : Tok),
    Below A₀ base outer h₀ → Fr h₀ L s.heap m → (Mine.hd.heap_39 w.params).In h₀ → Top p loose mean mg mb h₀ → cs.kind = .function →
    News h₀ L s.heap (led1 f D c' cA cI cN P fo oc oA oI oN oT rest vs n) → IntsAre vs ns →
    xi = (X : Int) → li = (lo : Int) → hi = (lo : Int) + (sz : Int) → 1 ≤ sz → lo + sz ≤ ns.length → ns.length ≤ 64 → X < 2 ^ sz →
    dp + sz < recursionLimit → un + 8 * sz + 8 < cLine →
    (∀ h' tk' vs' n', Fr h₀ L h' m → News h₀ L h' (led1 f D c' cA cI cN P fo oc oA oI oN oT rest vs' n') → IntsAre vs' (over ns lo (bits sz X)) → Q .none { s with heap := h', toks := tk' }) →
    wpAny (model prg w) (ktrTop dp un gd cn cs L a ccd cl outer) (call (.ref f) [.int xi t1, .int li t2, .int hi t3]) Q E s
theorem Inner1.use {w : World} {p : Program} {loose : List Str} {mean : ExcName → Option Value} {mg mb : Str → Option Value} {f D c' cA cI cN P : Addr} {fo oc oA oI oN oT : Obj} {rest : List (Addr × Obj)} {sz : Nat} (H : Inner1 w p loose mean mg mb f D c' cA cI cN P fo oc oA oI oN oT rest sz)
    {dp un : Nat} {gd : Option (List Code)} {cn : Str} {cs : Scope} {a : Addr} {ccd : Value} {cl : List (Str × Addr)} {outer : List Env} {A₀ : Around} {base h₀ : Heap} {L : Addr} {m : Str → Option Value} {s : Shared} {Q E : Value → Shared → Prop}
    {vs : List Value} {n : Nat} {ns : List Int} (X lo : Nat) {xi li hi : Int} {t1 t2 t3 : Tok}
    (B : Below A₀ base outer h₀) (F : Fr h₀ L s.heap m) (KX : (Mine.hd.heap_39 w.params).In h₀) (T : Top p loose mean mg mb h₀) (hk : cs.kind = .function)
    (N : News h₀ L s.heap (led1 f D c' cA cI cN P fo oc oA oI oN oT rest vs n)) (hi1 : IntsAre vs ns)
    (hx : xi = (X : Int)) (hl : li = (lo : Int)) (hh : hi = (lo : Int) + (sz : Int)) (h1 : 1 ≤ sz) (h2 : lo + sz ≤ ns.length) (h3 : ns.length ≤ 64) (h4 : X < 2 ^ sz)
    (hd : dp + sz < recursionLimit) (hu : un + 8 * sz + 8 < cLine)
    (hret : ∀ h' tk' vs' n', Fr h₀ L h' m → News h₀ L h' (led1 f D c' cA cI cN P fo oc oA oI oN oT rest vs' n') → IntsAre vs' (over ns lo (bits sz X)) → Q .none { s with heap := h', toks := tk' }) :
    wpAny (model prg w) (ktrTop dp un gd cn cs L a ccd cl outer) (call (.ref f) [.int xi t1, .int li t2, .int hi t3]) Q E s :=
  H _ _ _ _ _ _ _ _ _ _ _ _ _ _ _ _ _ _ _ _ X lo _ _ _ _ _ _ B F KX T hk N hi1 hx hl hh h1 h2 h3 h4 hd hu hret
section
variable {prog : Program} {w : World} {A A₀ : Around} {s : Shared} {K : Frag} {L : Addr} {h₀ base : Heap} {m mg mb : Str → Option Value} {news : List (Addr × Obj)} {p : Program} {loose : List Str} {mean : ExcName → Option Value}
theorem enterO {env : Env} {outer : List Env} {R : Result → Shared → Prop} {name qual : Str} {params : Arguments} {body : List Stmt} {scope : Scope} {cl : List (Str × Addr)} {doc pm ctv : Value} {c' : Addr} {f : Addr} {fo : Obj} {args : Args} {binds : List (Str × Value)}
    (hfo : fo = fnMade name qual params body scope cl doc pm c' ctv)
    (B : Below A₀ base outer h₀) (F : Fr h₀ L s.heap m) (X₀ : K.In h₀) (N : News h₀ L s.heap news) (T : Top p loose mean mg mb h₀) (hA : A.frames = some (env :: outer)) (hf : env.frame = some L) (hke : env.scope.kind = .function)
    (ho : (f, fo) ∈ news) (hcd : s.heap.CodeRec (.ref c') qual) (hroom : A.depth < recursionLimit)
    (hbind : BindsTo s (fnX name qual params body scope cl .none .none doc pm none (.ref c') ctv) args binds) (hloc : ∀ y ∈ binds, scope.names.lookup y.1 = some .local)
    (h : ∀ g L' h₁, Fr h₀ L g m → Fr g L' h₁ (fun y => binds.reverse.lookup y) → News g L' h₁ news → Below A base (env :: outer) g → K.In g → Top p loose mean mg mb g →
      wpAny (model prog w) (A.deeper (envX qual scope L' f (.ref c') cl)) (execs body (envX qual scope L' f (.ref c') cl))
        (fun fl s' => LeaveK h₀ L m g R (match fl with | .ret v => v | _ => .none) s')
        (fun e s' => wpAny (model prog w) (A.deeper (envX qual scope L' f (.ref c') cl)) (leaving (envX qual scope L' f (.ref c') cl) e) (fun _ s'' => R (.error e) s'') (fun e' s'' => R (.error e') s'') s')
        { s with heap := h₁, toks := s.toks + binds.length })
    (hco : scope.isCoroutine = false) (hgen : scope.isGenerator = false) (hk : scope.kind = .function)
    (hcell : ∀ x ∈ scope.names, x.2 ≠ .cell) : codeAny (model prog w) A (.call (.ref f) args) R s := by
  subst hfo
  exact code_nest B F X₀ N T hA hf hke ho hcd hroom hbind hloc h hco hgen hk hcell
end
end Mine
end
section
open PySem PySem.W PySem.Spec PySem.Calls PyProof.Rows
set_option Elab.async false
set_option maxRecDepth 100000
namespace Mine
theorem fill : (PySem.Challenge.rw_hi0001_01, Mine.hd.heap_39) = (PySem.Challenge.rw_hi0001_01, Mine.hd.heap_39) := by
  k_fill
  rfl
theorem fnAt_of {h₀ h : Heap} {L q : Addr} {fo : Obj} {news : List (Addr × Obj)} (N : News h₀ L h news) (hm : (q, fo) ∈ news) (hF : ∃ oc od fd sl, fo = ⟨oc, od, .func fd, sl⟩) : FnAt q h := by
  obtain ⟨oc, od, fd, sl, rfl⟩ := hF
  exact FnAt.of N hm
local macro_rules | `(tactic| walk_at "eval Name") => `(tactic| (k_here; k_dflt (refine' nameX_F ?N ?c ?m ?d ?_ ?a ?b; (case b => rfl); (case a => rfl); (case N => k_asm); (case c => rfl); (case m => k_mem); (case d => k_asm); k_whole)))
local macro_rules | `(tactic| walk_at "callWith ref") => `(tactic| (k_here; k_dflt (refine' callWith_F ?k1 ?_; (case k1 => exact fnAt_of (by k_asm) (by k_mem) (by assumption)); k_whole)))
set_option maxHeartbeats 1000000 in
theorem inner1_step {w : World} {p : Program} {loose : List Str} {mean : ExcName → Option Value} {mg mb : Str → Option Value} {name qual : Str} {params : Arguments} {body : List Stmt} {scope : Scope} {bind : Str} {pos : Pos} {doc pm ctv : Value} {f D c' cA cI cN P : Addr} {fo oc oA oI oN oT : Obj} {rest : List (Addr × Obj)} {vc : Array Value} {tq tn : Tok}
   (hS : inner1S = .FunctionDef name params body [] none [] scope none bind pos) (hfo : fo = fnIn1 name qual params body scope doc pm ctv c' cA cI cN)
   (hoc : oc.data = .fields vc) (hvc : vc[1]? = some (.str qual tq)) (hA : oA.data = .cell (some (.ref D))) (hI : oI.data = .cell (some (.ref f))) (hN : oN.data = .cell (some (.int 1 tn)))
   (hoff : OwnOff rest [D]) (hlt : D ≠ f ∧ D ≠ c' ∧ D ≠ cA ∧ D ≠ cI ∧ D ≠ cN ∧ D ≠ P)
   (sz : Nat) (IH : ∀ k < sz, Inner1 w p loose mean mg mb f D c' cA cI cN P fo oc oA oI oN oT rest k) :
   Inner1 w p loose mean mg mb f D c' cA cI cN P fo oc oA oI oN oT rest sz := by
  unfold inner1S i2dS bodyOf nthS at hS
  conv at hS => lhs; whnf
  injection hS with e1 e2 e3 e4 e5 e6 e7 e8 e9 e10
  subst e1 e2 e3 e7
  clear e4 e5 e6 e8 e9 e10
  intro dp un gd cn cs a ccd cl outer A₀ base h₀ L m s Q E vs n ns X lo xi li hi t1 t2 t3 B F KX T hk N hi1 hx hl hh h1 h2 h3 h5 hd hu hret
  subst hx hl hh
  obtain ⟨hl1, hl2, hl3, hl4, hl5, hl6⟩ := hlt
  replace hl1 := neN hl1
  replace hl2 := neN hl2
  replace hl3 := neN hl3
  replace hl4 := neN hl4
  replace hl5 := neN hl5
  replace hl6 := neN hl6
  dsimp only [led1] at N
  w_on
  refine wpAny_call ?_
  refine enterO (binds := [(PySem.Str.ofString "x", .int (X : Int) t1), (PySem.Str.ofString "L", .int (lo : Int) t2), (PySem.Str.ofString "R", .int ((lo : Int) + (sz : Int)) t3)]) hfo B F KX N T rfl rfl hk (.head _) (codeRec_news N (.tail _ (.head _)) hoc hvc) ?_ (BindsTo.of_eq rfl) (locs rfl) ?_ rfl rfl rfl (by decide)
  · dsimp only; omega
  intro g' L' h' FG' F' N' B' X' T'
  dsimp only
  k_fold
  have hFn : ∃ oc od fd sl, fo = ⟨oc, od, .func fd, sl⟩ := ⟨_, _, _, _, hfo⟩
  clear hfo
  iterate 17 (first | (k_unfold; (try dsimp only)) | (k_end; wrow_close) | walk1 | (dsimp only; walk1) | (leave1; walk_say "STEP leave1"; try dsimp only))
  · have hk2 : sz / 2 < sz := by omega
    have hk1 : 1 ≤ sz / 2 := by omega
    iterate 9 (first | (k_unfold; (try dsimp only)) | (k_end; wrow_close) | walk1 | (dsimp only; walk1) | (leave1; walk_say "STEP leave1"; try dsimp only))
    dsimp only
    rename Fr g' L' _ _ => F2
    rw [mid_eq] at F2
    generalize hkk : sz / 2 = k at *
    iterate 11 (first | (k_unfold; (try dsimp only)) | (k_end; wrow_close) | walk1 | (dsimp only; walk1) | (leave1; walk_say "STEP leave1"; try dsimp only))
    dsimp only
    rename Fr g' L' _ _ => F3
    rw [show ((lo : Int) + (k : Int) - (lo : Int)) * 1 = (k : Int) by omega] at F3
    iterate 6 (first | (k_unfold; (try dsimp only)) | (k_end; wrow_close) | walk1 | (dsimp only; walk1) | (leave1; walk_say "STEP leave1"; try dsimp only))
    refine PyProof.Rows.rshift_int (by omega) ?_
    rw [up_eq]
    iterate 8 (first | (k_unfold; (try dsimp only)) | (k_end; wrow_close) | walk1 | (dsimp only; walk1) | (leave1; walk_say "STEP leave1"; try dsimp only))
    have hX64 : X < 2 ^ 64 := Nat.lt_of_lt_of_le h5 (Nat.pow_le_pow_right (by decide) (by omega))
    have hu64 : X / 2 ^ k < 2 ^ 64 := Nat.lt_of_le_of_lt (Nat.div_le_self _ _) hX64
    refine PyProof.Rows.lshift_int_small (by omega) (by omega) (by rw [Int.natAbs_natCast]; exact hu64) ?_
    refine PyProof.Rows.xor_int ?_
    rw [low_eq]
    iterate 13 (first | (k_unfold; (try dsimp only)) | (k_end; wrow_close) | walk1 | (dsimp only; walk1) | (leave1; walk_say "STEP leave1"; try dsimp only))
    refine ⟨fnAt_of (by k_asm) (by k_mem) hFn, ?_⟩
    have hlow : X % 2 ^ k < 2 ^ k := Nat.mod_lt _ (Nat.pow_pos (by decide))
    have hup : X / 2 ^ k < 2 ^ (sz - k) := by
      rw [Nat.div_lt_iff_lt_mul (Nat.pow_pos (by decide)), ← Nat.pow_add, show sz - k + k = sz by omega]; exact h5
    refine (IH k hk2).use (X % 2 ^ k) lo B' (by k_asm) X' T' rfl (by k_asm) hi1 rfl rfl rfl hk1 (by omega) h3 hlow (show dp + 1 + k < recursionLimit by omega) (show un + 3 + 8 * k + 8 < cLine by omega) ?_
    intro h6 tk6 vs6 n6 F6 N6 hi6
    dsimp only
    clear N
    have hlen6 : (over ns lo (bits k (X % 2 ^ k))).length = ns.length := over_length (by rw [bits_length]; omega)
    iterate 12 (first | (k_unfold; (try dsimp only)) | (k_end; wrow_close) | walk1 | (dsimp only; walk1) | (leave1; walk_say "STEP leave1"; try dsimp only))
    refine ⟨fnAt_of (by k_asm) (by k_mem) hFn, ?_⟩
    refine (IH (sz - k) (by omega)).use (X / 2 ^ k) (lo + k) B' (by k_asm) X' T' rfl (by k_asm) hi6 rfl (by omega) (by omega) (by omega) (by omega) (by omega) hup (show dp + 1 + (sz - k) < recursionLimit by omega) (show un + 3 + 8 * (sz - k) + 8 < cLine by omega) ?_
    intro h7 tk7 vs7 n7 F7 N7 hi7
    dsimp only
    iterate 3 (first | (k_unfold; (try dsimp only)) | (k_end; wrow_close) | walk1 | (dsimp only; walk1) | (leave1; walk_say "STEP leave1"; try dsimp only))
    refine hret h7 _ vs7 n7 (by assumption) (by assumption) ?_
    have e3 := over_over (ns := ns) (as := bits k (X % 2 ^ k)) (bs := bits (sz - k) (X / 2 ^ k)) (i := lo) (by rw [bits_length, bits_length]; omega)
    rw [bits_length] at e3
    rw [e3, ← bits_split, show k + (sz - k) = sz by omega] at hi7
    exact hi7
  · iterate 3 (first | (k_unfold; (try dsimp only)) | (k_end; wrow_close) | walk1 | (dsimp only; walk1) | (leave1; walk_say "STEP leave1"; try dsimp only))
    refine ksa_set (n := n) (news' := (f, fo) :: (c', oc) :: (D, listOf (vs.set (lo : Int).toNat (.int (X : Int) t1)).toArray n) :: (cA, oA) :: (cI, oI) :: (cN, oN) :: (P, oT) :: rest) F' N' ?U hi1 (by omega) (by omega) (by omega) ?_
    case U => k_upd
    intro h2' F2 N2 hi2 hl2 hs2
    dsimp only
    iterate 3 (first | (k_unfold; (try dsimp only)) | (k_end; wrow_close) | walk1 | (dsimp only; walk1) | (leave1; walk_say "STEP leave1"; try dsimp only))
    refine hret h2' _ _ n (by assumption) (by assumption) ?_
    have e1 : sz = 1 := by omega
    subst e1
    have e2 : X % 2 = X := Nat.mod_eq_of_lt h5
    rw [Int.toNat_natCast, set_over (by omega)] at hi2
    simpa only [bits, e2, Int.toNat_natCast] using hi2
theorem inner1_all {w : World} {p : Program} {loose : List Str} {mean : ExcName → Option Value} {mg mb : Str → Option Value} {name qual : Str} {params : Arguments} {body : List Stmt} {scope : Scope} {bind : Str} {pos : Pos} {doc pm ctv : Value} {f D c' cA cI cN P : Addr} {fo oc oA oI oN oT : Obj} {rest : List (Addr × Obj)} {vc : Array Value} {tq tn : Tok}
   (hS : inner1S = .FunctionDef name params body [] none [] scope none bind pos) (hfo : fo = fnIn1 name qual params body scope doc pm ctv c' cA cI cN)
   (hoc : oc.data = .fields vc) (hvc : vc[1]? = some (.str qual tq)) (hA : oA.data = .cell (some (.ref D))) (hI : oI.data = .cell (some (.ref f))) (hN : oN.data = .cell (some (.int 1 tn)))
   (hoff : OwnOff rest [D]) (hlt : D ≠ f ∧ D ≠ c' ∧ D ≠ cA ∧ D ≠ cI ∧ D ≠ cN ∧ D ≠ P)
   (sz : Nat) : Inner1 w p loose mean mg mb f D c' cA cI cN P fo oc oA oI oN oT rest sz :=
  Nat.strongRecOn sz fun k ih => inner1_step hS hfo hoc hvc hA hI hN hoff hlt k ih
end Mine
end
section
open PySem PySem.W PySem.Spec PySem.Calls PyProof.Rows
set_option Elab.async false
set_option maxRecDepth 100000
namespace Mine
/-- how a def's table of codes may stand: as the top left it, or with the code of its one inner def -/
def TabSt (P : Addr) (pos : Pos) (qual : Str) (tab : List (Addr × Obj)) : Prop :=
  tab = [(P, tabObj #[])] ∨ ∃ c' oc vs t, tab = [(c', oc), (P, tabObj #[rawInt pos.line, rawInt pos.col, .ref c'])] ∧ oc.data = .fields vs ∧ vs[1]? = some (.str qual t) ∧ c' ≠ P
theorem TabSt.mem {P : Addr} {pos : Pos} {qual : Str} {tab : List (Addr × Obj)} (h : TabSt P pos qual tab) : P ∈ tab.map (·.1) := by
  rcases h with rfl | ⟨c', oc, vs, t, rfl, _⟩
  · exact .head _
  · exact .tail _ (.head _)
theorem updF_app {d : Addr} {o : Obj} {post : List (Addr × Obj)} (h2 : ∀ p ∈ post, p.1 ≠ d) : ∀ {pre : List (Addr × Obj)}, (∀ p ∈ pre, p.1 ≠ d) → UpdF d o (pre ++ (d, o) :: post) (fun o' => pre ++ (d, o') :: post)
  | [], _ => .head h2
  | _ :: _, h => .tail (h _ (.head _)) (updF_app h2 fun p hp => h p (.tail _ hp))
section
variable {M : Model} {A : Around} {E : Value → Shared → Prop} {s : Shared} {h₀ : Heap} {L a c P : Addr} {m mg mb : Str → Option Value} {cn : Str} {cs : Scope} {ccd : Value} {cl : List (Str × Addr)}
  {p : Program} {loose : List Str} {mean : ExcName → Option Value} {name qual : Str} {params : Arguments} {body : List Stmt} {scope : Scope} {pos : Pos} {firstLine : Nat} {clos : List (Str × Addr)} {pre tab rest : List (Addr × Obj)}
theorem nestAny {Q : Value → Shared → Prop} (F : Fr h₀ L s.heap m) (N : News h₀ L s.heap (pre ++ (tab ++ rest))) (T : Top p loose mean mg mb h₀) (C : CodeHd h₀ c P) (hcd : ccd = .ref c) (hT : TabSt P pos qual tab)
    (hp : OwnOff pre (tab.map (·.1))) (hr : OwnOff rest (tab.map (·.1))) (hcl : closureFor scope (envX cn cs L a ccd cl) = pure clos)
    (h : ∀ f fo c' oc vs t ctv doc h' tk, fo = fnMade name qual params body scope clos doc ((mg "__name__").getD .none) c' ctv → Fr h₀ L h' m →
      News h₀ L h' ((f, fo) :: (c', oc) :: (pre ++ (P, tabObj #[rawInt pos.line, rawInt pos.col, .ref c']) :: rest)) →
      oc.data = .fields vs → vs[1]? = some (.str qual t) → OwnOff rest [c'] → OwnOff pre [c'] → c' ≠ P → (∀ q ∈ pre ++ (tab ++ rest), q.1 < f) → c' < f → Q (.ref f) { s with heap := h', toks := tk }) :
    wpAny M A (makeFunction name qual params (.stmts body) scope (envX cn cs L a ccd cl) [] [] [] pos firstLine) Q E s := by
  rcases hT with rfl | ⟨c', oc, vs, t, rfl, h1, h2, h3⟩
  · refine nest_K F N T C hcd (updF_app (fun q hq => hr q hq _ (.head _)) (fun q hq => hp q hq _ (.head _))) (ps := #[]) True.intro rfl hcl ?_
    intro f c' oc vs t ctv doc h' tk F' N' hd hv hlt hcf
    refine h f _ c' oc vs t ctv doc h' tk rfl F' N' hd hv ?_ ?_ ?_ ?_ hcf
    · intro q hq b hb
      rw [List.mem_singleton.mp hb]
      exact Nat.ne_of_lt (hlt q (List.mem_append_right _ (List.mem_append_right _ hq)))
    · intro q hq b hb
      rw [List.mem_singleton.mp hb]
      exact Nat.ne_of_lt (hlt q (List.mem_append_left _ hq))
    · exact (Nat.ne_of_lt (hlt (P, tabObj #[]) (List.mem_append_right _ (.head _)))).symm
    · intro q hq
      exact Nat.lt_trans (hlt q hq) hcf
  · refine nestHit_K (c' := c') F N T C hcd (ps := #[rawInt pos.line, rawInt pos.col, .ref c']) (List.mem_append_right _ (.tail _ (.head _))) (by simp [TriplesOk, rawInt]) (by simp [codeAmong, rawInt]) hcl ?_
    intro f ctv doc h' tk F' N' hlt
    refine h f _ c' oc vs t ctv doc h' tk rfl F' (fun q hq => N' q ?_) h1 h2 ?_ ?_ h3 hlt (hlt (c', oc) (List.mem_append_right _ (.head _)))
    · simp only [List.mem_cons, List.mem_append] at hq ⊢
      rcases hq with e | e | e | e | e
      · exact .inl e
      · exact .inr (.inr (.inl (.inl e)))
      · exact .inr (.inl e)
      · exact .inr (.inr (.inl (.inr (.inl e))))
      · exact .inr (.inr (.inr e))
    · intro q hq b hb
      rw [List.mem_singleton.mp hb]
      exact hr q hq _ (.head _)
    · intro q hq b hb
      rw [List.mem_singleton.mp hb]
      exact hp q hq _ (.head _)
end
end Mine
end
section
open PySem PySem.W PySem.Spec PySem.Calls PyProof.Rows
set_option Elab.async false
set_option maxRecDepth 100000
namespace Mine
local macro_rules | `(tactic| walk_at "callWith ref") => `(tactic| (k_here; k_dflt (refine' callWith_F ?k1 ?_; (case k1 => exact fnAt_of (by k_asm) (by k_mem) (by assumption)); k_whole)))
abbrev blen (x : Nat) : Nat := Builtin.Int.intBits (x : Int)
theorem blen_facts : ∀ x < 64, blen x ≤ 6 ∧ x < 2 ^ blen x ∧ (x ≠ 0 → 1 ≤ blen x) ∧ (x = 0 → blen x = 0) := by decide +kernel
abbrev pos1 : Pos := ⟨5, 4, 14, 28⟩
abbrev qual1 : Str := (PySem.Str.ofString "_int2digits" ++ ".<locals>.") ++ PySem.Str.ofString "inner"
theorem fdiv1 (n : Nat) : ((n : Int) + 1 - 1).fdiv 1 = (n : Int) := by
  rw [Int.fdiv_eq_ediv_of_nonneg _ (by decide)]; omega
theorem over_zero {ns ms : List Int} (h : ms.length = ns.length) : over ns 0 ms = ms := by
  rw [over, List.take_zero, List.nil_append, Nat.zero_add, h, List.drop_length, List.append_nil]
set_option maxHeartbeats 1000000 in
theorem int2digits {w : World} {p : Program} {loose : List Str} {mean : ExcName → Option Value} {mg mb : Str → Option Value}
    {dp un : Nat} {gd : Option (List Code)} {cn : Str} {cs : Scope} {a : Addr} {ccd : Value} {cl : List (Str × Addr)} {outer : List Env} {A₀ : Around} {base h₀ : Heap} {L : Addr} {m : Str → Option Value} {s : Shared} {Q E : Value → Shared → Prop}
    {tab rest : List (Addr × Obj)} {X : Nat} {t1 t2 : Tok}
    (B : Below A₀ base outer h₀) (F : Fr h₀ L s.heap m) (KX : (Mine.hd.heap_39 w.params).In h₀) (T : Top p loose mean mg mb h₀) (hk : cs.kind = .function)
    (C : CodeHd h₀ 20 16) (hT : TabSt 16 pos1 qual1 tab) (N : News h₀ L s.heap (tab ++ rest)) (hr : OwnOff rest (tab.map (·.1))) (hX : X < 64) (hd : dp + 20 < recursionLimit) (hu : un + 200 < cLine)
    (hret : ∀ h' tk' tab' D vs n, Fr h₀ L h' m → News h₀ L h' ((D, listOf vs.toArray n) :: (tab' ++ rest)) → TabSt 16 pos1 qual1 tab' → OwnOff rest (tab'.map (·.1)) → (∀ q ∈ tab ++ rest, q.1 < D) → (∀ q ∈ tab', q.1 ≠ D) → IntsAre vs (bits (blen X) X) → Q (.ref D) { s with heap := h', toks := tk' }) :
    wpAny (model prg w) (ktrTop dp un gd cn cs L a ccd cl outer) (call (.ref 21) [.int (X : Int) t1, .int 1 t2]) Q E s := by
  w_on
  refine wpAny_call ?_
  refine' code_defC (f := 21) (binds := [(PySem.Str.ofString "a", .int (X : Int) t1), (PySem.Str.ofString "n", .int 1 t2)]) B F KX N T rfl rfl hk ?k6 ?k7 ?k8 ?k9 ?kB ?kD ?_ ?c2 ?c3 ?c4
  case k6 => k_is
  case k7 => k_is
  case k8 => (dsimp only; omega)
  case k9 => exact BindsTo.of_eq rfl
  case kB => exact rfl
  case kD => decide +kernel
  case c2 => exact rfl
  case c3 => exact rfl
  case c4 => exact rfl
  intro g' L' h' tk' cells' FG' F' N' Y' B' X' T' l1
  dsimp only
  k_fold
  have hY := CellsAre.three Y'
  clear Y'
  obtain ⟨oI, oA, oN, rfl, dI, dA, dN⟩ := hY
  simp only [List.cons_append, List.nil_append] at N'
  replace dN : _ = Data.cell (some (.int 1 t2)) := dN
  replace dA : _ = Data.cell none := dA
  replace dI : _ = Data.cell none := dI
  have hoff : OwnOff (tab ++ rest) [L' + 1 + 1 + 1, L' + 1 + 1, L' + 1] := by
    intro q hq x hx
    have hql := ltN (l1 q hq)
    simp only [List.mem_cons, List.not_mem_nil, or_false] at hx
    refine neN ?_
    rcases hx with rfl | rfl | rfl <;> omega
  have h16 : @LT.lt Nat _ 16 L' := by
    obtain ⟨q, hq, e⟩ := List.mem_map.mp hT.mem
    have := l1 q (List.mem_append_left _ hq)
    rw [e] at this
    exact ltN this
  have hoffR : OwnOff rest [L' + 1 + 1 + 1, L' + 1 + 1, L' + 1] := fun q hq x hx => hoff q (List.mem_append_right _ hq) x hx
  have hL := l1
  replace l1 := allLt_of l1
  iterate 22 (first | (k_unfold; (try dsimp only)) | (k_end; wrow_close) | walk1 | (dsimp only; walk1) | (leave1; walk_say "STEP leave1"; try dsimp only))
  dsimp only
  have hbl := blen_facts X hX
  rw [fdiv1]
  generalize hbe : Builtin.Int.intBits (X : Int) = b
  replace hbe : blen X = b := hbe
  rw [hbe] at hbl hret
  obtain ⟨hb6, hbX, hb1, hb0⟩ := hbl
  rename Fr g' L' _ _ => F1
  rename News g' L' _ _ => N1
  refine KM.mul (vs := [.int 0 _]) (ns := [0]) F1 N1 (News.isList N1 (.head _)) (.cons 0 _ .nil) (by omega) (by omega) (by simp only [List.length_cons, List.length_nil]; omega) ?_
  intro D h2 F2 N2 lD hi2 nn hn1 hn2 hn3 hn4
  clear F1 N1 hn1 hn2 hn3 hn4 nn
  rw [Int.toNat_natCast, krep_flat] at hi2
  rw [Int.toNat_natCast] at N2
  dsimp only at hi2 N2
  generalize (List.replicate b [Value.int 0 tk']).flatten = vs0 at hi2 N2
  have hlen0 : vs0.length = b := by rw [hi2.length, List.length_replicate]
  have hltD : ∀ q ∈ tab ++ rest, q.1 < D := fun q hq => lD q (.tail _ (.tail _ (.tail _ (.tail _ hq))))
  replace lD := allLt_of lD
  simp only [AllLt] at lD
  dsimp only
  iterate 3 (first | (k_unfold; (try dsimp only)) | (k_end; wrow_close) | walk1 | (dsimp only; walk1) | (leave1; walk_say "STEP leave1"; try dsimp only))
  refine nestDef_K rfl rfl rfl ?_
  rename Fr g' L' _ _ => F3
  rename News g' L' _ _ => N3
  rename Obj => oA2
  refine nestAny (pre := [_, _, _, _, _]) F3 N3 T' (C.keeps FG'.keep) rfl hT ?_ hr rfl ?_
  · intro q hq b hb
    obtain ⟨r, hr9, rfl⟩ := List.mem_map.mp hb
    have h5 := ltN (hL r (List.mem_append_left _ hr9))
    simp only [List.mem_cons, List.not_mem_nil, or_false] at hq
    rcases hq with rfl | rfl | rfl | rfl | rfl <;> refine neN ?_ <;> dsimp only <;> omega
  intro f fo c' oc vc tq ctv doc h4 tk4 hfo F4 N4 hoc hvc hrc hpc hcP hlf hcf
  have hc1 := neN (hpc _ (.head _) _ (.head _))
  have hc2 := neN (hpc _ (.tail _ (.head _)) _ (.head _))
  have hc3 := neN (hpc _ (.tail _ (.tail _ (.head _))) _ (.head _))
  have hc4 := neN (hpc _ (.tail _ (.tail _ (.tail _ (.head _)))) _ (.head _))
  have hc5 := neN (hpc _ (.tail _ (.tail _ (.tail _ (.tail _ (.head _))))) _ (.head _))
  replace hcP := neN hcP
  have hfrest : ∀ q ∈ tab ++ rest, q.1 < f := fun q hq => hlf q (List.mem_append_right _ hq)
  replace hlf := allLt_of hlf
  simp only [AllLt, List.cons_append, List.nil_append] at hlf
  replace hcf := ltN hcf
  simp only [List.cons_append, List.nil_append] at N4
  dsimp only at hc1 hc2 hc3 hc4 hc5
  clear F3 N3 hpc N hoffR
  have hR : OwnOff rest [c', L' + 1 + 1 + 1, L' + 1 + 1, L' + 1, D] := by
    intro q hq x hx
    rcases List.mem_cons.mp hx with rfl | hx
    · exact hrc q hq _ (.head _)
    have h6 := ltN (hL q (List.mem_append_right _ hq))
    simp only [List.mem_cons, List.not_mem_nil, or_false] at hx
    refine neN ?_
    rcases hx with rfl | rfl | rfl | rfl <;> omega
  clear hrc
  refine' storeX_C F4 N4 rfl ?U dI ?_ rfl rfl
  case U => k_updF
  intro h5 oI2 F5 N5 dI2
  clear F4 N4
  have hFn : ∃ oc od fd sl, fo = ⟨oc, od, .func fd, sl⟩ := ⟨_, _, _, _, hfo⟩
  iterate 8 (first | (k_unfold; (try dsimp only)) | (k_end; wrow_close) | walk1 | (dsimp only; walk1) | (leave1; walk_say "STEP leave1"; try dsimp only))
  · iterate 14 (first | (k_unfold; (try dsimp only)) | (k_end; wrow_close) | walk1 | (dsimp only; walk1) | (leave1; walk_say "STEP leave1"; try dsimp only))
    refine len_list (News.isList N5 (.tail _ (.tail _ (.head _)))) (by rw [List.size_toArray, hlen0]; omega) ?_
    rw [List.size_toArray, hlen0]
    iterate 1 (first | (k_unfold; (try dsimp only)) | (k_end; wrow_close) | walk1 | (dsimp only; walk1) | (leave1; walk_say "STEP leave1"; try dsimp only))
    refine ⟨fnAt_of N5 (.head _) hFn, ?_⟩
    have hX0 : X ≠ 0 := by omega
    have hsub : News g' L' h5 (led1 f D c' (L' + 1 + 1) (L' + 1 + 1 + 1) (L' + 1) 16 fo oc oA2 oI2 oN (tabObj #[rawInt ↑5, rawInt ↑4, Value.ref c']) rest vs0 0) := by
      intro q hq
      refine N5 q ?_
      simp only [led1, List.mem_cons] at hq ⊢
      grind
    refine (inner1_all (sz := b) rfl hfo hoc hvc (by assumption) dI2 dN (fun q hq x hx => ?_) ?_).use X 0 B' F5 X' T' rfl hsub hi2 rfl rfl (by omega) (hb1 hX0) (by rw [List.length_replicate]; omega) (by rw [List.length_replicate]; omega) hbX (show dp + 1 + b < recursionLimit by omega) (show un + 3 + 8 * b + 8 < cLine by omega) ?_
    · rw [List.mem_singleton.mp hx]
      exact hR q hq _ (.tail _ (.tail _ (.tail _ (.tail _ (.head _)))))
    · exact ⟨neN (by omega), neN (by omega), neN (by omega), neN (by omega), neN (by omega), neN (by omega)⟩
    intro h7 tk7 vs7 n7 F7 N7 hi7
    dsimp only
    clear hsub
    iterate 5 (first | (k_unfold; (try dsimp only)) | (k_end; wrow_close) | walk1 | (dsimp only; walk1) | (leave1; walk_say "STEP leave1"; try dsimp only))
    rw [over_zero (by rw [bits_length, List.length_replicate])] at hi7
    refine hret h7 _ [(c', oc), (16, tabObj #[rawInt ↑5, rawInt ↑4, Value.ref c'])] D vs7 n7 (by assumption) ?_ (.inr ⟨c', oc, vc, tq, rfl, hoc, hvc, hcP⟩) ?_ hltD ?_ hi7
    · rename News h₀ L _ _ => N8
      intro q hq
      refine N8 q ?_
      simp only [led1, List.mem_cons, List.mem_append, List.not_mem_nil, or_false] at hq ⊢
      grind
    · intro q hq x hx
      simp only [List.map_cons, List.map_nil, List.mem_cons, List.not_mem_nil, or_false] at hx
      rcases hx with rfl | rfl
      · exact hR q hq _ (.head _)
      · exact hr q hq _ hT.mem
    · intro q hq
      simp only [List.mem_cons, List.not_mem_nil, or_false] at hq
      rcases hq with rfl | rfl <;> refine neN ?_ <;> dsimp only <;> omega
  · iterate 5 (first | (k_unfold; (try dsimp only)) | (k_end; wrow_close) | walk1 | (dsimp only; walk1) | (leave1; walk_say "STEP leave1"; try dsimp only))
    have hX0 : X = 0 := by omega
    have hb00 := hb0 hX0
    subst hb00
    refine hret h5 _ [(c', oc), (16, tabObj #[rawInt ↑5, rawInt ↑4, Value.ref c'])] D vs0 0 (by assumption) ?_ (.inr ⟨c', oc, vc, tq, rfl, hoc, hvc, hcP⟩) ?_ hltD ?_ hi2
    · rename News h₀ L _ _ => N8
      intro q hq
      refine N8 q ?_
      simp only [led1, List.mem_cons, List.mem_append, List.not_mem_nil, or_false] at hq ⊢
      grind
    · intro q hq x hx
      simp only [List.map_cons, List.map_nil, List.mem_cons, List.not_mem_nil, or_false] at hx
      rcases hx with rfl | rfl
      · exact hR q hq _ (.head _)
      · exact hr q hq _ hT.mem
    · intro q hq
      simp only [List.mem_cons, List.not_mem_nil, or_false] at hq
      rcases hq with rfl | rfl <;> refine neN ?_ <;> dsimp only <;> omega
end Mine
end
section
open PySem PySem.W PySem.Spec PySem.Calls PyProof.Rows
set_option Elab.async false
set_option maxRecDepth 100000
namespace Mine
open LCg LCt
section
variable {prog : Program} {w : World} {A : Around} {s : Shared} {h₀ : Heap} {L : Addr} {m : Str → Option Value} {env : Env} {ct elt : Expr} {x : Str} {scope : Scope} {cl : List (Str × Addr)} {S : List (Addr × Obj) → Prop} {P : Nat → Value → Prop} {Fin : List Value → List (Addr × Obj) → Prop} {news : List (Addr × Obj)}
/-- a list comprehension with a test, by a word G of the turn's number and of what is taken; its turns make nothing that is kept -/
theorem compT_ind (G : Nat → List Value → Prop) (n : Nat) (h0 : G 0 []) (fin : ∀ ys, G n ys → Fin ys news)
    (step : ∀ i ys, i < n → G i ys → ∀ v I oI C oC D m₂ h tk (E' : Value → Shared → Prop), P i v → NsObj oC m₂ → m₂ x = some v → Fr h₀ L h m → News h₀ L h ((I, oI) :: (C, oC) :: (D, lst ys) :: news) → Off3 I C D news → ((@Ne Nat I C) ∧ (@Ne Nat I D) ∧ (@Ne Nat C D)) →
      wpAny (model prog w) A (isTrue ct (compEnvC scope cl C env) (eval ct (compEnvC scope cl C env))) (fun ok s' => if ok = true then
        wpAny (model prog w) A (eval elt (compEnvC scope cl C env)) (CompEnd h₀ L m { s with heap := h, toks := tk } I oI C oC D (lst ys) S (fun y news' => news' = news ∧ G (i + 1) (ys ++ [y]))) E' s'
        else CompEnd h₀ L m { s with heap := h, toks := tk } I oI C oC D (lst ys) S (fun _ news' => news' = news ∧ G (i + 1) ys) Value.none s') E' { s with heap := h, toks := tk }) :
    CompRestT prog w A h₀ L m env ct elt x scope cl s S P Fin n 0 [] news := by
  have all : ∀ k i ys, i + k = n → G i ys → CompRestT prog w A h₀ L m env ct elt x scope cl s S P Fin k i ys news := by
    intro k
    induction k with
    | zero =>
      intro i ys hik g
      have e : i = n := by omega
      subst e
      exact CompRestT.zero (fin ys g)
    | succ k ih =>
      intro i ys hik g
      refine CompRestT.succ fun v I oI C oC D m₂ h tk E' hP hC hx F N off ne => ?_
      refine wpAny_mono (step i ys (by omega) g v I oI C oC D m₂ h tk E' hP hC hx F N off ne) (fun ok s' q => ?_) fun _ _ e => e
      cases ok with
      | true =>
        simp only [if_true] at q ⊢
        refine wpAny_mono q (fun y s'' q => ?_) fun _ _ e => e
        obtain ⟨h', tk', news', e, F', N', o', hS, rfl, g'⟩ := q
        exact ⟨h', tk', _, e, F', N', o', hS, ih (i + 1) _ (by omega) g'⟩
      | false =>
        simp only [Bool.false_eq_true, if_false] at q ⊢
        obtain ⟨h', tk', news', e, F', N', o', hS, rfl, g'⟩ := q
        exact ⟨h', tk', _, e, F', N', o', hS, ih (i + 1) _ (by omega) g'⟩
  exact all n 0 [] (Nat.zero_add n) h0
end
end Mine
end
section
open PySem PySem.W PySem.Spec PySem.Calls PyProof.Rows
set_option Elab.async false
set_option maxRecDepth 100000
namespace Mine
/-- how many twos of ones stand side by side among the first i + 1 of ns -/
def prs (ns : List Int) : Nat → Nat
  | 0 => 0
  | i + 1 => prs ns i + (if ns.getD i 0 = ns.getD (i + 1) 0 ∧ ns.getD (i + 1) 0 = 1 then 1 else 0)
theorem prs_le (ns : List Int) : ∀ i, prs ns i ≤ i
  | 0 => Nat.le_refl _
  | i + 1 => by
    have h := prs_le ns i
    rw [prs]
    split <;> omega
def sgn (X : Nat) : Int := 1 - 2 * ((prs (bits (blen X) X) (blen X - 1) : Nat) : Int).fmod 2
set_option maxHeartbeats 1000000 in
theorem lawSign {w : World} {p : Program} {loose : List Str} {mean : ExcName → Option Value} {mg mb : Str → Option Value}
    {dp un : Nat} {gd : Option (List Code)} {cn : Str} {cs : Scope} {a : Addr} {ccd : Value} {cl : List (Str × Addr)} {outer : List Env} {A₀ : Around} {base h₀ : Heap} {L : Addr} {m : Str → Option Value} {s : Shared} {Q E : Value → Shared → Prop}
    {tab rest : List (Addr × Obj)} {X : Nat} {t1 : Tok}
    (B : Below A₀ base outer h₀) (F : Fr h₀ L s.heap m) (KX : (Mine.hd.heap_39 w.params).In h₀) (T : Top p loose mean mg mb h₀) (hk : cs.kind = .function)
    (C : CodeHd h₀ 20 16) (hT : TabSt 16 pos1 qual1 tab) (N : News h₀ L s.heap (tab ++ rest)) (hr : OwnOff rest (tab.map (·.1))) (hX : X < 64) (hd : dp + 30 < recursionLimit) (hu : un + 300 < cLine)
    (hret : ∀ h' tk' tab' t, Fr h₀ L h' m → News h₀ L h' (tab' ++ rest) → TabSt 16 pos1 qual1 tab' → OwnOff rest (tab'.map (·.1)) → Q (.int (sgn X) t) { s with heap := h', toks := tk' }) :
    wpAny (model prg w) (ktrTop dp un gd cn cs L a ccd cl outer) (call (.ref 47) [.int (X : Int) t1]) Q E s := by
  w_on
  refine wpAny_call ?_
  refine' code_defC (f := 47) (binds := [(PySem.Str.ofString "number", .int (X : Int) t1)]) B F KX N T rfl rfl hk ?k6 ?k7 ?k8 ?k9 ?kB ?kD ?_ ?c2 ?c3 ?c4
  case k6 => k_is
  case k7 => k_is
  case k8 => (dsimp only; omega)
  case k9 => exact BindsTo.of_eq rfl
  case kB => exact rfl
  case kD => decide +kernel
  case c2 => exact rfl
  case c3 => exact rfl
  case c4 => exact rfl
  intro g' L' h' tk' cells' FG' F' N' Y' B' X' T' l1
  dsimp only
  k_fold
  have hY := CellsAre.one Y'
  clear Y'
  obtain ⟨oF, rfl, dF⟩ := hY
  simp only [List.cons_append, List.nil_append] at N'
  replace dF : _ = Data.cell none := dF
  have hL := l1
  have hoff0 : OwnOff ((L' + 1, oF) :: rest) (tab.map (·.1)) := by
    intro q hq x hx
    obtain ⟨r, hr9, rfl⟩ := List.mem_map.mp hx
    rcases List.mem_cons.mp hq with rfl | hq
    · have h6 := ltN (hL r (List.mem_append_left _ hr9))
      refine neN ?_
      dsimp only
      omega
    · exact hr q hq _ hx
  iterate 11 (first | (k_unfold; (try dsimp only)) | (k_end; wrow_close) | walk1 | (dsimp only; walk1) | (leave1; walk_say "STEP leave1"; try dsimp only))
  have N1 : News g' L' h' (tab ++ ((L' + 1, oF) :: rest)) := fun q hq => N' q (by
    simp only [List.mem_cons, List.mem_append] at hq ⊢
    grind)
  refine int2digits B' (by k_asm) X' T' rfl (C.keeps FG'.keep) hT N1 hoff0 hX (show dp + 1 + 20 < recursionLimit by omega) (show un + 3 + 200 < cLine by omega) ?_
  intro h5 tk5 tab5 D vs n F5 N5 hT5 hr5 hD hD5 hvs
  dsimp only
  have N6 : News g' L' h5 ((D, listOf vs.toArray n) :: (L' + 1, oF) :: (tab5 ++ rest)) := fun q hq => N5 q (by
    simp only [List.mem_cons, List.mem_append] at hq ⊢
    grind)
  have hDL := ltN (hD (L' + 1, oF) (List.mem_append_right _ (.head _)))
  dsimp only at hDL
  have hoff : OwnOff (tab5 ++ rest) [L' + 1, D] := by
    intro q hq x hx
    simp only [List.mem_cons, List.not_mem_nil, or_false] at hx
    rcases List.mem_append.mp hq with hq | hq
    · rcases hx with rfl | rfl
      · exact (hr5 _ (.head _) _ (List.mem_map.mpr ⟨q, hq, rfl⟩)).symm
      · exact hD5 q hq
    · rcases hx with rfl | rfl
      · have h6 := ltN (hL q (List.mem_append_right _ hq))
        refine neN ?_
        omega
      · exact Nat.ne_of_lt (hD q (List.mem_append_right _ (.tail _ hq)))
  clear N5 N1 N'
  iterate 13 (first | (k_unfold; (try dsimp only)) | (k_end; wrow_close) | walk1 | (dsimp only; walk1) | (leave1; walk_say "STEP leave1"; try dsimp only))
  dsimp only
  rename Fr g' L' _ _ => F7
  rename News g' L' _ _ => N7
  refine LCt.ListComp_T F7 (by with_unfolding_all rfl) (by decide) rfl (by decide) rfl ?_
  iterate 12 (first | (k_unfold; (try dsimp only)) | (k_end; wrow_close) | walk1 | (dsimp only; walk1) | (leave1; walk_say "STEP leave1"; try dsimp only))
  dsimp only
  have hbl := blen_facts X hX
  unfold sgn at hret
  generalize hbe : blen X = b at hbl hret hvs
  obtain ⟨hb6, hbX, hb1, hb0⟩ := hbl
  have hlen : vs.length = b := by rw [hvs.length, bits_length]
  refine len_list (News.isList N7 (.head _)) (by rw [List.size_toArray, hlen]; omega) ?_
  rw [List.size_toArray, hlen]
  iterate 2 (first | (k_unfold; (try dsimp only)) | (k_end; wrow_close) | walk1 | (dsimp only; walk1) | (leave1; walk_say "STEP leave1"; try dsimp only))
  rename News g' L' _ _ => N8
  rename Fr g' L' _ _ => F8
  refine LCt.CompSrcT.range rfl F8 N8 (by assumption) (small_one (by omega) (by omega) (by omega) (by omega)) (rangeSize_nat _ _) (by rw [sizeLine_eq]; omega) ?_
  intro g9
  dsimp only
  refine compT_ind (fun i ys => ys.length = prs (bits b X) i) _ rfl ?_ ?_
  · intro ys hys D2 h6 tk6 F6 N6 o6
    dsimp only
    have e8 : ((b : Int) - 1).toNat = b - 1 := by omega
    rw [e8] at hys
    have hpr : prs (bits b X) (b - 1) ≤ b - 1 := prs_le _ _
    iterate 1 (first | (k_unfold; (try dsimp only)) | (k_end; wrow_close) | walk1 | (dsimp only; walk1) | (leave1; walk_say "STEP leave1"; try dsimp only))
    refine len_list (News.isList N6 (.head _)) (by rw [List.size_toArray, hys]; omega) ?_
    rw [List.size_toArray, hys]
    iterate 6 (first | (k_unfold; (try dsimp only)) | (k_end; wrow_close) | walk1 | (dsimp only; walk1) | (leave1; walk_say "STEP leave1"; try dsimp only))
    refine hret h6 _ tab5 _ (by assumption) (fun q hq => ?_) hT5 fun q hq => hr5 q (.tail _ hq)
    rename News h₀ L _ _ => N8
    refine N8 q ?_
    simp only [List.mem_cons, List.mem_append] at hq ⊢
    grind
  · intro i ys hi hys v I oI Cc oC Dd m2 h9 tk9 E9 hP hNs hm2 F9 N9 off9 ne9
    obtain ⟨t9, rfl⟩ := hP
    dsimp only
    have e1 : (1 + (i : Int) - 1).toNat = i := by omega
    have e2 : (1 + (i : Int)).toNat = i + 1 := by omega
    iterate 17 (first | (k_unfold; (try dsimp only)) | (k_end; wrow_close) | walk1 | (dsimp only; walk1) | (leave1; walk_say "STEP leave1"; try dsimp only))
    · iterate 3 (first | (k_unfold; (try dsimp only)) | (k_end; wrow_close) | walk1 | (dsimp only; walk1) | (leave1; walk_say "STEP leave1"; try dsimp only))
      dsimp only
      iterate 2 (first | (k_unfold; (try dsimp only)) | (k_end; wrow_close) | walk1 | (dsimp only; walk1) | (leave1; walk_say "STEP leave1"; try dsimp only))
      · rename_i hc1 hc2
        iterate 1 (first | (k_unfold; (try dsimp only)) | (k_end; wrow_close) | walk1 | (dsimp only; walk1) | (leave1; walk_say "STEP leave1"; try dsimp only))
        refine LCg.CompEnd.intro F9 N9 _ (fun _ h => h) off9 trivial ⟨rfl, ?_⟩
        rw [e1, e2] at hc1
        rw [e2] at hc2
        rw [List.length_append, List.length_singleton, hys, prs, if_pos ⟨hc1, hc2⟩]
      · rename_i hc1 hc2
        refine LCg.CompEnd.intro F9 N9 _ (fun _ h => h) off9 trivial ⟨rfl, ?_⟩
        rw [e2] at hc2
        rw [hys, prs, if_neg fun h => hc2 h.2, Nat.add_zero]
    · rename_i hc1
      dsimp only
      refine LCg.CompEnd.intro F9 N9 _ (fun _ h => h) off9 trivial ⟨rfl, ?_⟩
      rw [e1, e2] at hc1
      rw [hys, prs, if_neg fun h => hc1 h.1, Nat.add_zero]
end Mine
end
section
open PySem PySem.W PySem.Spec PySem.Calls PyProof.Rows
set_option Elab.async false
set_option maxRecDepth 100000
namespace Mine
/-- the number that figures by two tell, the least first -/
def unb : List Int → Int
  | [] => 0
  | a :: r => a + 2 * unb r
theorem unb_append : ∀ as bs : List Int, unb (as ++ bs) = unb as + 2 ^ as.length * unb bs
  | [], bs => by simp [unb]
  | a :: as, bs => by
    rw [List.cons_append, unb, unb_append as bs, unb, List.length_cons, Int.pow_succ, Int.mul_add]
    rw [Int.mul_comm (2 ^ as.length) 2, Int.mul_assoc]
    omega
theorem unb_bounds : ∀ as : List Int, (∀ a ∈ as, a = 0 ∨ a = 1) → 0 ≤ unb as ∧ unb as < 2 ^ as.length
  | [], _ => by simp [unb]
  | a :: as, h => by
    have ih := unb_bounds as fun b hb => h b (.tail _ hb)
    have ha := h a (.head _)
    rw [unb, List.length_cons, Int.pow_succ]
    omega
theorem bits01 : ∀ k x, ∀ a ∈ bits k x, a = 0 ∨ a = 1
  | 0, _, _, h => nomatch h
  | k + 1, x, a, h => by
    rw [bits] at h
    rcases List.mem_cons.mp h with rfl | h
    · omega
    · exact bits01 k _ a h
theorem unb_bits : ∀ k x, x < 2 ^ k → unb (bits k x) = (x : Int)
  | 0, x, h => by
    have e : x = 0 := by simpa using h
    subst e
    rfl
  | k + 1, x, h => by
    rw [bits, unb, unb_bits k (x / 2) (by rw [Nat.pow_succ] at h; omega)]
    omega
theorem take_split (ns : List Int) (lo k sz : Nat) (h : k ≤ sz) : (ns.drop lo).take sz = (ns.drop lo).take k ++ (ns.drop (lo + k)).take (sz - k) := by
  have e : sz = k + (sz - k) := by omega
  rw [e, List.take_add, List.drop_drop]
  congr 2
  omega
def Inner2 (w : World) (p : Program) (loose : List Str) (mean : ExcName → Option Value) (mg mb : Str → Option Value) (f : Addr) (led : List (Addr × Obj)) (ns : List Int) (sz : Nat) : Prop :=
  ∀ (dp un : Nat) (gd : Option (List Code)) (cn : Str) (cs : Scope) (a : Addr) (ccd : Value) (cl : List (Str × Addr)) (outer : List Env) (A₀ : Around) (base h₀ : Heap) (L : Addr) (m : Str → Option Value) (s : Shared) (Q E : Value → Shared → Prop)
    (lo : Nat) (li hi : Int) (t2 t3 : Tok),
    Below A₀ base outer h₀ → Fr h₀ L s.heap m → (Mine.hd.heap_39 w.params).In h₀ → Top p loose mean mg mb h₀ → cs.kind = .function →
    News h₀ L s.heap led →
    li = (lo : Int) → hi = (lo : Int) + (sz : Int) → 1 ≤ sz → lo + sz ≤ ns.length →
    dp + sz < recursionLimit → un + 8 * sz + 8 < cLine →
    (∀ h' tk' t, Fr h₀ L h' m → News h₀ L h' led → Q (.int (unb ((ns.drop lo).take sz)) t) { s with heap := h', toks := tk' }) →
    wpAny (model prg w) (ktrTop dp un gd cn cs L a ccd cl outer) (call (.ref f) [.int li t2, .int hi t3]) Q E s
theorem Inner2.use {w : World} {p : Program} {loose : List Str} {mean : ExcName → Option Value} {mg mb : Str → Option Value} {f : Addr} {led : List (Addr × Obj)} {ns : List Int} {sz : Nat} (H : Inner2 w p loose mean mg mb f led ns sz)
    {dp un : Nat} {gd : Option (List Code)} {cn : Str} {cs : Scope} {a : Addr} {ccd : Value} {cl : List (Str × Addr)} {outer : List Env} {A₀ : Around} {base h₀ : Heap} {L : Addr} {m : Str → Option Value} {s : Shared} {Q E : Value → Shared → Prop}
    (lo : Nat) {li hi : Int} {t2 t3 : Tok}
    (B : Below A₀ base outer h₀) (F : Fr h₀ L s.heap m) (KX : (Mine.hd.heap_39 w.params).In h₀) (T : Top p loose mean mg mb h₀) (hk : cs.kind = .function)
    (N : News h₀ L s.heap led) (hl : li = (lo : Int)) (hh : hi = (lo : Int) + (sz : Int)) (h1 : 1 ≤ sz) (h2 : lo + sz ≤ ns.length)
    (hd : dp + sz < recursionLimit) (hu : un + 8 * sz + 8 < cLine)
    (hret : ∀ h' tk' t, Fr h₀ L h' m → News h₀ L h' led → Q (.int (unb ((ns.drop lo).take sz)) t) { s with heap := h', toks := tk' }) :
    wpAny (model prg w) (ktrTop dp un gd cn cs L a ccd cl outer) (call (.ref f) [.int li t2, .int hi t3]) Q E s :=
  H _ _ _ _ _ _ _ _ _ _ _ _ _ _ _ _ _ lo _ _ _ _ B F KX T hk N hl hh h1 h2 hd hu hret
local macro_rules | `(tactic| walk_at "eval Name") => `(tactic| (k_here; k_dflt (refine' nameX_F ?N ?c ?m ?d ?_ ?a ?b; (case b => rfl); (case a => rfl); (case N => k_asm); (case c => rfl); (case m => k_mem); (case d => k_asm); k_whole)))
local macro_rules | `(tactic| walk_at "callWith ref") => `(tactic| (k_here; k_dflt (refine' callWith_F ?k1 ?_; (case k1 => exact fnAt_of (by k_asm) (by k_mem) (by assumption)); k_whole)))
set_option maxHeartbeats 1000000 in
theorem inner2_step {w : World} {p : Program} {loose : List Str} {mean : ExcName → Option Value} {mg mb : Str → Option Value} {name qual : Str} {params : Arguments} {body : List Stmt} {scope : Scope} {bind : Str} {pos : Pos} {doc pm ctv : Value} {f D c' cG cI cN : Addr} {fo oc oG oI oN : Obj} {rest : List (Addr × Obj)} {vs : List Value} {n : Nat} {ns : List Int} {vc : Array Value} {tq tn : Tok}
   (hS : inner2S = .FunctionDef name params body [] none [] scope none bind pos) (hfo : fo = fnMade name qual params body scope [(PySem.Str.ofString "n", cN), (PySem.Str.ofString "inner", cI), (PySem.Str.ofString "digits", cG)] doc pm c' ctv)
   (hoc : oc.data = .fields vc) (hvc : vc[1]? = some (.str qual tq)) (hG : oG.data = .cell (some (.ref D))) (hI : oI.data = .cell (some (.ref f))) (hN : oN.data = .cell (some (.int 1 tn)))
   (hi1 : IntsAre vs ns) (h01 : ∀ a ∈ ns, a = 0 ∨ a = 1) (hn : ns.length ≤ 62)
   (sz : Nat) (IH : ∀ k < sz, Inner2 w p loose mean mg mb f ((f, fo) :: (c', oc) :: (D, listOf vs.toArray n) :: (cG, oG) :: (cI, oI) :: (cN, oN) :: rest) ns k) :
   Inner2 w p loose mean mg mb f ((f, fo) :: (c', oc) :: (D, listOf vs.toArray n) :: (cG, oG) :: (cI, oI) :: (cN, oN) :: rest) ns sz := by
  unfold inner2S d2iS bodyOf nthS at hS
  conv at hS => lhs; whnf
  injection hS with e1 e2 e3 e4 e5 e6 e7 e8 e9 e10
  subst e1 e2 e3 e7
  clear e4 e5 e6 e8 e9 e10
  intro dp un gd cn cs a ccd cl outer A₀ base h₀ L m s Q E lo li hi t2 t3 B F KX T hk N hl hh h1 h2 hd hu hret
  subst hl hh
  w_on
  refine wpAny_call ?_
  refine enterO (binds := [(PySem.Str.ofString "L", .int (lo : Int) t2), (PySem.Str.ofString "R", .int ((lo : Int) + (sz : Int)) t3)]) hfo B F KX N T rfl rfl hk (.head _) (codeRec_news N (.tail _ (.head _)) hoc hvc) ?_ (BindsTo.of_eq rfl) (locs rfl) ?_ rfl rfl rfl (by decide)
  · dsimp only; omega
  intro g' L' h' FG' F' N' B' X' T'
  dsimp only
  k_fold
  have hFn : ∃ oc od fd sl, fo = ⟨oc, od, .func fd, sl⟩ := ⟨_, _, _, _, hfo⟩
  clear hfo
  iterate 15 (first | (k_unfold; (try dsimp only)) | (k_end; wrow_close) | walk1 | (dsimp only; walk1) | (leave1; walk_say "STEP leave1"; try dsimp only))
  · iterate 4 (first | (k_unfold; (try dsimp only)) | (k_end; wrow_close) | walk1 | (dsimp only; walk1) | (leave1; walk_say "STEP leave1"; try dsimp only))
    have e1 : sz = 1 := by omega
    subst e1
    have e2 : (ns.drop lo).take 1 = [ns.getD lo 0] := by
      rw [List.getD_eq_getElem?_getD, List.getElem?_eq_getElem (by omega), Option.getD_some, List.drop_eq_getElem_cons (by omega)]
      rfl
    have e3 : ns.getD (lo : Int).toNat 0 = unb ((ns.drop lo).take 1) := by
      rw [e2, Int.toNat_natCast]
      simp only [unb, Int.mul_zero, Int.add_zero]
    rw [e3]
    exact hret h' _ _ (by assumption) (by assumption)
  · have hk2 : sz / 2 < sz := by omega
    have hk1 : 1 ≤ sz / 2 := by omega
    iterate 11 (first | (k_unfold; (try dsimp only)) | (k_end; wrow_close) | walk1 | (dsimp only; walk1) | (leave1; walk_say "STEP leave1"; try dsimp only))
    dsimp only
    rename Fr g' L' _ _ => F2
    rw [mid_eq] at F2
    generalize hkk : sz / 2 = k at *
    iterate 11 (first | (k_unfold; (try dsimp only)) | (k_end; wrow_close) | walk1 | (dsimp only; walk1) | (leave1; walk_say "STEP leave1"; try dsimp only))
    dsimp only
    rename Fr g' L' _ _ => F3
    rw [show ((lo : Int) + (k : Int) - (lo : Int)) * 1 = (k : Int) by omega] at F3
    iterate 13 (first | (k_unfold; (try dsimp only)) | (k_end; wrow_close) | walk1 | (dsimp only; walk1) | (leave1; walk_say "STEP leave1"; try dsimp only))
    refine ⟨fnAt_of (by k_asm) (by k_mem) hFn, ?_⟩
    refine (IH (sz - k) (by omega)).use (lo + k) B' (by k_asm) X' T' rfl (by k_asm) (by omega) (by omega) (by omega) (by omega) (show dp + 1 + (sz - k) < recursionLimit by omega) (show un + 3 + 8 * (sz - k) + 8 < cLine by omega) ?_
    intro h6 tk6 t6 F6 N6
    dsimp only
    have hb := unb_bounds ((ns.drop (lo + k)).take (sz - k)) fun a ha => h01 a (List.mem_of_mem_drop (List.mem_of_mem_take ha))
    have hbl : ((ns.drop (lo + k)).take (sz - k)).length ≤ 62 := by
      rw [List.length_take, List.length_drop]; omega
    have hb2 : unb ((ns.drop (lo + k)).take (sz - k)) < 2 ^ 62 := Int.lt_of_lt_of_le hb.2 (by
      have := Nat.pow_le_pow_right (n := 2) (by decide) hbl
      exact_mod_cast this)
    have hlk : ((ns.drop lo).take k).length = k := by
      rw [List.length_take, List.length_drop]; omega
    have hsum : unb ((ns.drop (lo + k)).take (sz - k)) * 2 ^ ((k : Nat) : Int).toNat + unb ((ns.drop lo).take k) = unb ((ns.drop lo).take sz) := by
      rw [take_split ns lo k sz (by omega), unb_append, hlk, Int.toNat_natCast, Int.mul_comm]
      omega
    generalize unb ((ns.drop (lo + k)).take (sz - k)) = U at *
    iterate 1 (first | (k_unfold; (try dsimp only)) | (k_end; wrow_close) | walk1 | (dsimp only; walk1) | (leave1; walk_say "STEP leave1"; try dsimp only))
    refine PyProof.Rows.lshift_int_small (by omega) (by omega) (by omega) ?_
    iterate 8 (first | (k_unfold; (try dsimp only)) | (k_end; wrow_close) | walk1 | (dsimp only; walk1) | (leave1; walk_say "STEP leave1"; try dsimp only))
    refine ⟨fnAt_of (by k_asm) (by k_mem) hFn, ?_⟩
    refine (IH k hk2).use lo B' (by k_asm) X' T' rfl (by k_asm) rfl (by omega) hk1 (by omega) (show dp + 1 + k < recursionLimit by omega) (show un + 3 + 8 * k + 8 < cLine by omega) ?_
    intro h7 tk7 t7 F7 N7
    dsimp only
    iterate 3 (first | (k_unfold; (try dsimp only)) | (k_end; wrow_close) | walk1 | (dsimp only; walk1) | (leave1; walk_say "STEP leave1"; try dsimp only))
    rw [hsum]
    exact hret h7 _ _ (by assumption) (by assumption)
theorem inner2_all {w : World} {p : Program} {loose : List Str} {mean : ExcName → Option Value} {mg mb : Str → Option Value} {name qual : Str} {params : Arguments} {body : List Stmt} {scope : Scope} {bind : Str} {pos : Pos} {doc pm ctv : Value} {f D c' cG cI cN : Addr} {fo oc oG oI oN : Obj} {rest : List (Addr × Obj)} {vs : List Value} {n : Nat} {ns : List Int} {vc : Array Value} {tq tn : Tok}
   (hS : inner2S = .FunctionDef name params body [] none [] scope none bind pos) (hfo : fo = fnMade name qual params body scope [(PySem.Str.ofString "n", cN), (PySem.Str.ofString "inner", cI), (PySem.Str.ofString "digits", cG)] doc pm c' ctv)
   (hoc : oc.data = .fields vc) (hvc : vc[1]? = some (.str qual tq)) (hG : oG.data = .cell (some (.ref D))) (hI : oI.data = .cell (some (.ref f))) (hN : oN.data = .cell (some (.int 1 tn)))
   (hi1 : IntsAre vs ns) (h01 : ∀ a ∈ ns, a = 0 ∨ a = 1) (hn : ns.length ≤ 62)
   (sz : Nat) : Inner2 w p loose mean mg mb f ((f, fo) :: (c', oc) :: (D, listOf vs.toArray n) :: (cG, oG) :: (cI, oI) :: (cN, oN) :: rest) ns sz :=
  Nat.strongRecOn sz fun k ih => inner2_step hS hfo hoc hvc hG hI hN hi1 h01 hn k ih
end Mine
end
section
open PySem PySem.W PySem.Spec PySem.Calls PyProof.Rows
set_option Elab.async false
set_option maxRecDepth 100000
namespace Mine
abbrev pos2 : Pos := ⟨20, 4, 25, 55⟩
abbrev qual2 : Str := (PySem.Str.ofString "_digits2int" ++ ".<locals>.") ++ PySem.Str.ofString "inner"
local macro_rules | `(tactic| walk_at "callWith ref") => `(tactic| (k_here; k_dflt (refine' callWith_F ?k1 ?_; (case k1 => exact fnAt_of (by k_asm) (by k_mem) (by assumption)); k_whole)))
set_option maxHeartbeats 1000000 in
theorem digits2int {w : World} {p : Program} {loose : List Str} {mean : ExcName → Option Value} {mg mb : Str → Option Value}
    {dp un : Nat} {gd : Option (List Code)} {cn : Str} {cs : Scope} {a : Addr} {ccd : Value} {cl : List (Str × Addr)} {outer : List Env} {A₀ : Around} {base h₀ : Heap} {L : Addr} {m : Str → Option Value} {s : Shared} {Q E : Value → Shared → Prop}
    {tab rest : List (Addr × Obj)} {D : Addr} {vs : List Value} {n : Nat} {ns : List Int} {t2 : Tok}
    (B : Below A₀ base outer h₀) (F : Fr h₀ L s.heap m) (KX : (Mine.hd.heap_39 w.params).In h₀) (T : Top p loose mean mg mb h₀) (hk : cs.kind = .function)
    (C : CodeHd h₀ 27 23) (hT : TabSt 23 pos2 qual2 tab) (N : News h₀ L s.heap (tab ++ rest)) (hr : OwnOff rest (tab.map (·.1))) (hDm : (D, listOf vs.toArray n) ∈ rest) (hi1 : IntsAre vs ns) (h01 : ∀ a ∈ ns, a = 0 ∨ a = 1) (hn : ns.length ≤ 10)
    (hd : dp + 20 < recursionLimit) (hu : un + 200 < cLine)
    (hret : ∀ h' tk' tab' t, Fr h₀ L h' m → News h₀ L h' (tab' ++ rest) → TabSt 23 pos2 qual2 tab' → OwnOff rest (tab'.map (·.1)) → Q (.int (unb ns) t) { s with heap := h', toks := tk' }) :
    wpAny (model prg w) (ktrTop dp un gd cn cs L a ccd cl outer) (call (.ref 28) [.ref D, .int 1 t2]) Q E s := by
  w_on
  refine wpAny_call ?_
  refine' code_defC (f := 28) (binds := [(PySem.Str.ofString "digits", .ref D), (PySem.Str.ofString "n", .int 1 t2)]) B F KX N T rfl rfl hk ?k6 ?k7 ?k8 ?k9 ?kB ?kD ?_ ?c2 ?c3 ?c4
  case k6 => k_is
  case k7 => k_is
  case k8 => (dsimp only; omega)
  case k9 => exact BindsTo.of_eq rfl
  case kB => exact rfl
  case kD => decide +kernel
  case c2 => exact rfl
  case c3 => exact rfl
  case c4 => exact rfl
  intro g' L' h' tk' cells' FG' F' N' Y' B' X' T' l1
  dsimp only
  k_fold
  have hY := CellsAre.three Y'
  clear Y'
  obtain ⟨oI, oN, oG, rfl, dI, dN, dG⟩ := hY
  simp only [List.cons_append, List.nil_append] at N'
  replace dN : _ = Data.cell (some (.int 1 t2)) := dN
  replace dG : _ = Data.cell (some (.ref D)) := dG
  replace dI : _ = Data.cell none := dI
  have hL := l1
  have h16 : @LT.lt Nat _ 23 L' := by
    obtain ⟨q, hq, e⟩ := List.mem_map.mp hT.mem
    have := l1 q (List.mem_append_left _ hq)
    rw [e] at this
    exact ltN this
  iterate 1 (first | (k_unfold; (try dsimp only)) | (k_end; wrow_close) | walk1 | (dsimp only; walk1) | (leave1; walk_say "STEP leave1"; try dsimp only))
  refine nestDef_K rfl rfl rfl ?_
  refine nestAny (pre := [_, _, _]) F' N' T' (C.keeps FG'.keep) rfl hT ?_ hr rfl ?_
  · intro q hq b hb
    obtain ⟨r, hr9, rfl⟩ := List.mem_map.mp hb
    have h5 := ltN (hL r (List.mem_append_left _ hr9))
    simp only [List.mem_cons, List.not_mem_nil, or_false] at hq
    rcases hq with rfl | rfl | rfl <;> refine neN ?_ <;> dsimp only <;> omega
  intro f fo c' oc vc tq ctv doc h4 tk4 hfo F4 N4 hoc hvc hrc hpc hcP hlf hcf
  have hc1 := neN (hpc _ (.head _) _ (.head _))
  have hc2 := neN (hpc _ (.tail _ (.head _)) _ (.head _))
  have hc3 := neN (hpc _ (.tail _ (.tail _ (.head _))) _ (.head _))
  replace hcP := neN hcP
  replace hlf := allLt_of hlf
  simp only [AllLt, List.cons_append, List.nil_append] at hlf
  replace hcf := ltN hcf
  simp only [List.cons_append, List.nil_append] at N4
  dsimp only at hc1 hc2 hc3
  clear hpc N
  have hR : OwnOff rest [c', L' + 1 + 1 + 1, L' + 1 + 1, L' + 1] := by
    intro q hq x hx
    rcases List.mem_cons.mp hx with rfl | hx
    · exact hrc q hq _ (.head _)
    have h6 := ltN (hL q (List.mem_append_right _ hq))
    simp only [List.mem_cons, List.not_mem_nil, or_false] at hx
    refine neN ?_
    rcases hx with rfl | rfl | rfl <;> omega
  clear hrc
  refine' storeX_C F4 N4 rfl ?U dI ?_ rfl rfl
  case U => k_updF
  intro h5 oI2 F5 N5 dI2
  clear F4 N4
  have hFn : ∃ oc od fd sl, fo = ⟨oc, od, .func fd, sl⟩ := ⟨_, _, _, _, hfo⟩
  have N6 : News g' L' h5 ((f, fo) :: (c', oc) :: (D, listOf vs.toArray n) :: (L' + 1, oG) :: (L' + 1 + 1 + 1, oI2) :: (L' + 1 + 1, oN) :: (23, tabObj #[rawInt ↑20, rawInt ↑4, Value.ref c']) :: rest) := by
    intro q hq
    refine N5 q ?_
    simp only [List.mem_cons] at hq ⊢
    rcases hq with h | h | h | h | h | h | h | h
    · exact .inl h
    · exact .inr (.inl h)
    · exact .inr (.inr (.inr (.inr (.inr (.inr (h ▸ hDm))))))
    · exact .inr (.inr (.inr (.inr (.inl h))))
    · exact .inr (.inr (.inl h))
    · exact .inr (.inr (.inr (.inl h)))
    · exact .inr (.inr (.inr (.inr (.inr (.inl h)))))
    · exact .inr (.inr (.inr (.inr (.inr (.inr h)))))
  clear N5
  iterate 6 (first | (k_unfold; (try dsimp only)) | (k_end; wrow_close) | walk1 | (dsimp only; walk1) | (leave1; walk_say "STEP leave1"; try dsimp only))
  have hlen : vs.length = ns.length := hi1.length
  have hend : ∀ h7 : Heap, News h₀ L h7 ((f, fo) :: (c', oc) :: (D, listOf vs.toArray n) :: (L' + 1, oG) :: (L' + 1 + 1 + 1, oI2) :: (L' + 1 + 1, oN) :: (23, tabObj #[rawInt ↑20, rawInt ↑4, Value.ref c']) :: rest) →
      News h₀ L h7 ([(c', oc), (23, tabObj #[rawInt ↑20, rawInt ↑4, Value.ref c'])] ++ rest) := by
    intro h7 N8 q hq
    refine N8 q ?_
    simp only [List.mem_cons, List.mem_append, List.not_mem_nil, or_false] at hq ⊢
    grind
  have htab : OwnOff rest ([(c', oc), (23, tabObj #[rawInt ↑20, rawInt ↑4, Value.ref c'])].map (·.1)) := by
    intro q hq x hx
    simp only [List.map_cons, List.map_nil, List.mem_cons, List.not_mem_nil, or_false] at hx
    rcases hx with rfl | rfl
    · exact hR q hq _ (.head _)
    · exact hr q hq _ hT.mem
  by_cases hpos : 0 < ns.length
  · rw [if_pos (decide_eq_true hpos)]
    iterate 12 (first | (k_unfold; (try dsimp only)) | (k_end; wrow_close) | walk1 | (dsimp only; walk1) | (leave1; walk_say "STEP leave1"; try dsimp only))
    dsimp only
    refine len_list (News.isList N6 (.tail _ (.tail _ (.head _)))) (by rw [List.size_toArray, hlen]; omega) ?_
    rw [List.size_toArray, hlen]
    iterate 1 (first | (k_unfold; (try dsimp only)) | (k_end; wrow_close) | walk1 | (dsimp only; walk1) | (leave1; walk_say "STEP leave1"; try dsimp only))
    refine ⟨fnAt_of N6 (.head _) hFn, ?_⟩
    refine (inner2_all (sz := ns.length) rfl hfo hoc hvc dG dI2 dN hi1 h01 (by omega)).use 0 B' (by k_asm) X' T' rfl N6 rfl (by omega) hpos (by omega) (show dp + 1 + ns.length < recursionLimit by omega) (show un + 3 + 8 * ns.length + 8 < cLine by omega) ?_
    intro h7 tk7 t7 F7 N7
    dsimp only
    iterate 2 (first | (k_unfold; (try dsimp only)) | (k_end; wrow_close) | walk1 | (dsimp only; walk1) | (leave1; walk_say "STEP leave1"; try dsimp only))
    rw [List.drop_zero, List.take_length]
    exact hret h7 _ _ _ (by assumption) (hend _ (by assumption)) (.inr ⟨c', oc, vc, tq, rfl, hoc, hvc, hcP⟩) htab
  · rw [if_neg (by simpa using hpos)]
    iterate 3 (first | (k_unfold; (try dsimp only)) | (k_end; wrow_close) | walk1 | (dsimp only; walk1) | (leave1; walk_say "STEP leave1"; try dsimp only))
    have e0 : ns = [] := List.length_eq_zero_iff.mp (by omega)
    subst e0
    exact hret h5 _ _ _ (by assumption) (hend _ (by assumption)) (.inr ⟨c', oc, vc, tq, rfl, hoc, hvc, hcP⟩) htab
end Mine
end
section
open PySem PySem.W PySem.Spec PySem.Calls PyProof.Rows
set_option Elab.async false
set_option maxRecDepth 100000
namespace Mine
theorem allLt_mem {d : Addr} : ∀ {l : List (Addr × Obj)}, AllLt d l → ∀ p ∈ l, p.1 < d
  | [], _, _, h => nomatch h
  | _ :: _, h, p, hp => by
    rcases List.mem_cons.mp hp with rfl | hp
    · exact h.1
    · exact allLt_mem h.2 p hp
abbrev tupO (vs : List Value) (k : Nat) : Obj := { cls := .type "tuple", data := .seq vs.toArray k }
set_option maxHeartbeats 2000000 in
theorem addCallers {w : World} {p : Program} {loose : List Str} {mean : ExcName → Option Value} {mg mb : Str → Option Value}
    {dp un : Nat} {gd : Option (List Code)} {cn : Str} {cs : Scope} {a : Addr} {ccd : Value} {cl : List (Str × Addr)} {outer : List Env} {A₀ : Around} {base h₀ : Heap} {L : Addr} {m : Str → Option Value} {s : Shared} {Q E : Value → Shared → Prop}
    {rest : List (Addr × Obj)} {d1 d2 : Addr} {o1 o2 : Obj}
    (B : Below A₀ base outer h₀) (F : Fr h₀ L s.heap m) (KX : (Mine.hd.heap_39 w.params).In h₀) (T : Top p loose mean mg mb h₀) (hk : cs.kind = .function)
    (N : News h₀ L s.heap ((d1, o1) :: (d2, o2) :: rest))
    (hs1 : o1.IsDictOf (PySem.strKind prg w) []) (hi1 : o1.IsDictOf (intKind prg w) []) (lo1 : (d1 == sysModules) = false)
    (hs2 : o2.IsDictOf (PySem.strKind prg w) []) (hi2 : o2.IsDictOf (intKind prg w) []) (lo2 : (d2 == sysModules) = false)
    (hd : dp + 20 < recursionLimit) (hu : un + 200 < cLine)
    (hret : ∀ h' tk' d3 o3, Fr h₀ L h' m → News h₀ L h' ((d3, o3) :: rest) → o3.IsDictOf (PySem.strKind prg w) [] → o3.IsDictOf (intKind prg w) [] → (d3 == sysModules) = false → (∀ q ∈ rest, q.1 < d3) → Q (.ref d3) { s with heap := h', toks := tk' }) :
    wpAny (model prg w) (ktrTop dp un gd cn cs L a ccd cl outer) (call (.ref 42) [.ref d1, .ref d2]) Q E s := by
  w_on
  refine wpAny_call ?_
  refine' code_def (f := 42) (binds := [(PySem.Str.ofString "target", .ref d1), (PySem.Str.ofString "source", .ref d2)]) B F KX N T rfl rfl hk ?k6 ?k7 ?k8 ?k9 ?kB ?_ ?c2 ?c3 ?c4 ?c5
  case k6 => k_is
  case k7 => k_is
  case k8 => (dsimp only; omega)
  case k9 => exact BindsTo.of_eq rfl
  case kB => exact locs rfl
  case c2 => exact rfl
  case c3 => exact rfl
  case c4 => exact rfl
  case c5 => decide
  intro g' L' h' FG' F' N' B' X' T'
  dsimp only
  k_fold
  iterate 4 (first | (k_unfold; (try dsimp only)) | (k_end; wrow_close) | walk1 | (dsimp only; walk1) | (leave1; walk_say "STEP leave1"; try dsimp only))
  rename (_ == sysModules) = false => lo3
  rename Obj.IsDictOf (PySem.strKind prg w) _ [] => hs3
  rename Obj.IsDictOf (intKind prg w) _ [] => hi3
  rename Obj => o3
  rename Addr => d3
  rename _ ∧ _ => l3
  iterate 5 (first | (k_unfold; (try dsimp only)) | (k_end; wrow_close) | walk1 | (dsimp only; walk1) | (leave1; walk_say "STEP leave1"; try dsimp only))
  rename News g' _ _ _ => N9
  have N8 := N9
  replace N9 : News g' L' _ ((d2, o2) :: (d3, o3) :: rest) := fun q hq => N8 q (by
    simp only [List.mem_cons] at hq ⊢
    grind)
  clear N8
  iterate 6 (first | (k_unfold; (try dsimp only)) | (k_end; wrow_close) | walk1 | (dsimp only; walk1) | (leave1; walk_say "STEP leave1"; try dsimp only))
  refine hret _ _ d3 o3 (by assumption) ?_ hs3 (by assumption) lo3 (allLt_mem l3.2.2)
  rename News h₀ L _ _ => N8
  intro q hq
  refine N8 q ?_
  simp only [List.mem_cons] at hq ⊢
  grind
set_option maxHeartbeats 2000000 in
theorem addStats {w : World} {p : Program} {loose : List Str} {mean : ExcName → Option Value} {mg mb : Str → Option Value}
    {dp un : Nat} {gd : Option (List Code)} {cn : Str} {cs : Scope} {a : Addr} {ccd : Value} {cl : List (Str × Addr)} {outer : List Env} {A₀ : Around} {base h₀ : Heap} {L : Addr} {m : Str → Option Value} {s : Shared} {Q E : Value → Shared → Prop}
    {rest : List (Addr × Obj)} {Tt Ss d1 d2 : Addr} {o1 o2 : Obj} {x1 x2 x3 x4 y1 y2 y3 y4 : Int} {t1 t2 t3 t4 u1 u2 u3 u4 : Tok} {k1 k2 : Nat}
    (B : Below A₀ base outer h₀) (F : Fr h₀ L s.heap m) (KX : (Mine.hd.heap_39 w.params).In h₀) (T : Top p loose mean mg mb h₀) (hk : cs.kind = .function)
    (N : News h₀ L s.heap ((Tt, tupO [.int x1 t1, .int x2 t2, .int x3 t3, .int x4 t4, .ref d1] k1) :: (d1, o1) :: (Ss, tupO [.int y1 u1, .int y2 u2, .int y3 u3, .int y4 u4, .ref d2] k2) :: (d2, o2) :: rest))
    (hs1 : o1.IsDictOf (PySem.strKind prg w) []) (hi1 : o1.IsDictOf (intKind prg w) []) (lo1 : (d1 == sysModules) = false)
    (hs2 : o2.IsDictOf (PySem.strKind prg w) []) (hi2 : o2.IsDictOf (intKind prg w) []) (lo2 : (d2 == sysModules) = false)
    (hd : dp + 30 < recursionLimit) (hu : un + 300 < cLine)
    (hret : ∀ h' tk' R d3 o3 t5 t6 t7 t8 k3, Fr h₀ L h' m → News h₀ L h' ((R, tupO [.int (y1 + x1) t5, .int (y2 + x2) t6, .int (y3 + x3) t7, .int (y4 + x4) t8, .ref d3] k3) :: (d3, o3) :: rest) → o3.IsDictOf (PySem.strKind prg w) [] → o3.IsDictOf (intKind prg w) [] → (d3 == sysModules) = false → (∀ q ∈ rest, q.1 < d3) → @LT.lt Nat _ d3 R → Q (.ref R) { s with heap := h', toks := tk' }) :
    wpAny (model prg w) (ktrTop dp un gd cn cs L a ccd cl outer) (call (.ref 35) [.ref Tt, .ref Ss]) Q E s := by
  w_on
  refine wpAny_call ?_
  refine' code_def (f := 35) (binds := [(PySem.Str.ofString "target", .ref Tt), (PySem.Str.ofString "source", .ref Ss)]) B F KX N T rfl rfl hk ?k6 ?k7 ?k8 ?k9 ?kB ?_ ?c2 ?c3 ?c4 ?c5
  case k6 => k_is
  case k7 => k_is
  case k8 => (dsimp only; omega)
  case k9 => exact BindsTo.of_eq rfl
  case kB => exact locs rfl
  case c2 => exact rfl
  case c3 => exact rfl
  case c4 => exact rfl
  case c5 => decide
  intro g' L' h' FG' F' N' B' X' T'
  dsimp only
  k_fold
  iterate 64 (first | (k_unfold; (try dsimp only)) | (k_end; wrow_close) | walk1 | (dsimp only; walk1) | (leave1; walk_say "STEP leave1"; try dsimp only))
  dsimp only
  iterate 9 (first | (k_unfold; (try dsimp only)) | (k_end; wrow_close) | walk1 | (dsimp only; walk1) | (leave1; walk_say "STEP leave1"; try dsimp only))
  refine ⟨by k_in, ?_⟩
  rename News g' L' _ _ => N4
  refine addCallers (rest := rest) B' (by k_asm) X' T' rfl (fun q hq => N4 q (by
    simp only [List.mem_cons] at hq ⊢
    grind)) hs1 hi1 lo1 hs2 hi2 lo2 (show dp + 1 + 20 < recursionLimit by omega) (show un + 3 + 200 < cLine by omega) ?_
  intro h5 tk5 d3 o3 F5 N5 hs3 hi3 lo3 l3
  clear N4
  dsimp only
  iterate 3 (first | (k_unfold; (try dsimp only)) | (k_end; wrow_close) | walk1 | (dsimp only; walk1) | (leave1; walk_say "STEP leave1"; try dsimp only))
  rename News h₀ L _ _ => N8
  rename Fr h₀ L _ _ => F8
  rename _ ∧ _ => l4
  exact hret _ _ _ d3 o3 _ _ _ _ _ F8 N8 hs3 hi3 lo3 l3 l4.1
end Mine
end
section
open PySem PySem.W PySem.Spec PySem.Calls PyProof.Rows
set_option Elab.async false
set_option maxRecDepth 100000
namespace Mine
section
variable {prog : Program} {w : World} {A : Around} {E : Value → Shared → Prop} {s : Shared} {env : Env} {h₀ : Heap} {x : Str} {body : List Stmt} {Q : Flow → Shared → Prop}
/-- a for over a range by ones, by a word of the turn's number, the frame and the ledger -/
theorem rangeLoop {r : Addr} {a₀ b₀ : Int} {t₀ u₀ v₀ : Tok} {n : Nat} {m₀ : Str → Option Value} {news : List (Addr × Obj)} (J : Nat → (Str → Option Value) → List (Addr × Obj) → Prop)
    (hh : A.handled = none) (hr : IsRange s.heap r a₀ b₀ 1 t₀ u₀ v₀) (hsmall : Builtin.Range.small a₀ b₀ 1 = true) (hsz : Builtin.Range.rangeSize a₀ b₀ 1 = (n : Int)) (F : Fr h₀ env.locals s.heap m₀) (N : News h₀ env.locals s.heap news) (hj : J 0 m₀ news)
    (turn : ∀ i t m₁ nx h tk own, i < n → OwnOff own (nx.map (·.1)) → J i m₁ nx → Fr h₀ env.locals h (fun y => if y = x then some (.int (a₀ + (i : Int)) t) else m₁ y) → News h₀ env.locals h (nx ++ own) →
      wpAny (model prog w) A (execs body env) (InvPostG h₀ env.locals (J (i + 1)) own { s with heap := h, toks := tk } Q) E { s with heap := h, toks := tk })
    (done : ∀ m₁ nx h tk, J n m₁ nx → Fr h₀ env.locals h m₁ → News h₀ env.locals h nx → Q .next { s with heap := h, toks := tk }) :
    wpAny (model prog w) A (pyIter (.ref r)) (fun it s₂ => LoopAtV prog w A h₀ env x body Q E it s₂) E s := by
  have W := (Walks.range (prog := prog) (w := w) hh s.heap.objs.size a₀ 1 n).bound
  refine wpAny_pyIter_range hr hsmall (kdr_loop J W (fun _ q => q) (fun _ q => q) (fun i h hi b hb => ?_) (fun q => ?_) (fun b hb => ?_) (fun p hp q => ?_) ?_ (F.push _) (fun p hp => ⟨Heap.get?_push_of_some _ (N p hp).1, (N p hp).2⟩) hj ?_ done)
  · rw [List.mem_singleton.mp hb]; exact ⟨_, hi⟩
  · exact Nat.lt_irrefl _ (List.mem_singleton.mp q ▸ F.ns.lt)
  · rw [List.mem_singleton.mp hb]; exact next_is_new F
  · exact Nat.lt_irrefl _ (List.mem_singleton.mp q ▸ Heap.lt_size (N p hp).1)
  · show IsRangeIter _ _ _ _ _
    rw [hsz]
    simpa using Heap.get?_push_size _ rfl
  · rintro i v m₁ nx h tk own hi ⟨_, t, rfl⟩ ho hJ F₁ N₁
    rw [Int.mul_one] at F₁
    exact turn i t m₁ nx h tk own hi ho hJ F₁ N₁
end
end Mine
end
section
open PySem PySem.W PySem.Spec PySem.Calls PyProof.Rows
set_option Elab.async false
namespace Mine
section
variable {p : Addr × Obj} {l r : List (Addr × Obj)} {a a' : List Addr} {d : Addr}
theorem oo_nil : OwnOff [] a := fun _ h => nomatch h
theorem oo_cons (h : ∀ b ∈ a, p.1 ≠ b) (t : OwnOff l a) : OwnOff (p :: l) a := fun q hq => (List.mem_cons.mp hq).elim (fun e => e ▸ h) (t q)
theorem oo_app (h1 : OwnOff l a) (h2 : OwnOff r a) : OwnOff (l ++ r) a := fun q hq => (List.mem_append.mp hq).elim (h1 q) (h2 q)
theorem oo_left (h : OwnOff (l ++ r) a) : OwnOff l a := fun q hq => h q (List.mem_append_left _ hq)
theorem oo_right (h : OwnOff (l ++ r) a) : OwnOff r a := fun q hq => h q (List.mem_append_right _ hq)
theorem oo_head (h : OwnOff (p :: l) a) : ∀ b ∈ a, p.1 ≠ b := h p (.head _)
theorem oo_tail (h : OwnOff (p :: l) a) : OwnOff l a := fun q hq => h q (.tail _ hq)
theorem oo_lt (h : ∀ q ∈ l, q.1 < d) : OwnOff l [d] := fun q hq b hb => by rw [List.mem_singleton.mp hb]; exact Nat.ne_of_lt (h q hq)
theorem oo_gt (h : ∀ q ∈ l, q.1 < d) : ∀ b ∈ l.map (·.1), d ≠ b := fun b hb => by
  obtain ⟨q, hq, rfl⟩ := List.mem_map.mp hb
  exact (Nat.ne_of_lt (h q hq)).symm
theorem oo_comm (h : OwnOff l (r.map (·.1))) : OwnOff r (l.map (·.1)) := fun q hq b hb => by
  obtain ⟨z, hz, rfl⟩ := List.mem_map.mp hb
  exact (h z hz _ (List.mem_map.mpr ⟨q, hq, rfl⟩)).symm
theorem oo_sub (h : OwnOff l a) (hs : ∀ b ∈ a', b ∈ a) : OwnOff l a' := fun q hq b hb => h q hq b (hs b hb)
theorem oo_of (h : OwnOff l (r.map (·.1))) (hs : ∀ q ∈ l, q ∈ l) {r' : List (Addr × Obj)} (hr : ∀ q ∈ r', q ∈ r) : OwnOff l (r'.map (·.1)) := fun q hq b hb => by
  obtain ⟨z, hz, rfl⟩ := List.mem_map.mp hb
  exact h q (hs q hq) _ (List.mem_map.mpr ⟨z, hr z hz, rfl⟩)
theorem oo_one {b : Addr} (h : OwnOff l a) (hb : b ∈ a) : OwnOff l [b] := fun q hq x hx => by rw [List.mem_singleton.mp hx]; exact h q hq b hb
theorem oo_two {b : Addr} (h : OwnOff l [b]) (h2 : OwnOff l a) : OwnOff l (b :: a) := fun q hq x hx => (List.mem_cons.mp hx).elim (fun e => by rw [e]; exact h q hq b (.head _)) (h2 q hq x)
theorem reord1 {α : Type} {q A B C E D : α} {tab tups rest own : List α} (h : q ∈ A :: B :: C :: E :: D :: (tab ++ (tups ++ (rest ++ own)))) : q ∈ C :: E :: (tab ++ ((D :: A :: B :: (tups ++ rest)) ++ own)) := by
  simp only [List.mem_cons, List.mem_append] at h ⊢
  grind
theorem allLt_left {d : Addr} : ∀ {l r : List (Addr × Obj)}, AllLt d (l ++ r) → AllLt d l
  | [], _, _ => trivial
  | _ :: _, _, h => ⟨h.1, allLt_left h.2⟩
theorem allLt_right {d : Addr} : ∀ {l r : List (Addr × Obj)}, AllLt d (l ++ r) → AllLt d r
  | [], _, h => h
  | _ :: _, _, h => allLt_right h.2
end
end Mine
end
section
open PySem PySem.W PySem.Spec PySem.Calls PyProof.Rows
set_option Elab.async false
set_option maxRecDepth 100000
namespace Mine
section
variable {prog : Program} {w : World} {A : Around} {E : Value → Shared → Prop} {s : Shared} {h₀ : Heap} {L : Addr} {m : Str → Option Value} {news : List (Addr × Obj)} {v1 v2 v3 v4 v5 : Value}
/-- what a cut [:3] asks of five places -/
theorem cut3_places {sl : Addr} {u : Tok} {Q : Int × Int × Nat → Shared → Prop} (hs : s.heap.IsSliceOf sl .none (.int 3 u) .none) (h : Q (0, 1, 3) s) :
    wpAny (model prog w) A (Builtin.Slice.sliceApplied (.ref sl) (pure (5 : Int))) Q E s := by
  obtain ⟨o, ho, _, hd⟩ := id hs
  unfold Builtin.Slice.sliceApplied Builtin.Slice.sliceFields
  refine wpAny_bind (wpAny_bind (wpAny_field ho hd (x := .none) rfl (wpAny_bind (wpAny_field ho hd (x := .int 3 u) rfl (wpAny_bind (wpAny_field ho hd (x := .none) rfl (wpAny_pure ?_)))))))
  refine wpAny_bind (slicePart_none ?_)
  show wpAny _ _ (if ((1 : Int) == 0) = true then _ else _) _ _ s
  rw [if_neg (by decide)]
  exact wpAny_bind (slicePart_none (wpAny_bind (slicePart_int (wpAny_bind (wpAny_pure (wpAny_pure h))))))
theorem cut3_item {t sl : Addr} {u : Tok} {k : Nat} {Q : Value → Shared → Prop} (ht : s.heap.get? t = some (tupO [v1, v2, v3, v4, v5] k)) (hs : s.heap.IsSliceOf sl .none (.int 3 u) .none)
    (h : Q (.ref s.heap.objs.size) { s with heap := s.heap.push (tupO [v1, v2, v3] 0) }) : wpAny (model prog w) A (getItem (.ref t) (.ref sl)) Q E s := by
  have hT : IsTup s.heap t #[v1, v2, v3, v4, v5] := ⟨_, ht, rfl, k, rfl⟩
  have hS : s.TypeIs (.ref sl) "slice" := by obtain ⟨o, ho, hc, _⟩ := id hs; exact ⟨o, ho, hc⟩
  unfold getItem
  try with_reducible refine wpAny_holding ?_
  first | refine wpAny_bind (wpAny_pure ?_) | skip
  refine wpAny_bind (wpAny_sequenceKey hT.typeIs (by decide) ?_)
  refine wpAny_bind (wpAny_callSpecial?_slot (name := Str.ofString "__getitem__") hT.typeIs slot_tuple_getitem
    (wpAny_call_entry slot_tuple_getitem hT.typeIs entry_tuple_getitem ?_ (args_tuple_getitem _ _)))
  show wpAny _ _ (Builtin.Tuple.tupleItemsOf (.ref t) >>= _) _ _ s
  refine wpAny_bind (tupleItemsOf_ hT ?_)
  refine wpAny_bind (wpAny_typeOf hS ?_)
  rw [if_pos (by decide)]
  refine wpAny_bind (cut3_places hs ?_)
  have hz : sizeOk (.seq #[v1, v2, v3]) := show (3 : Nat) ≤ sizeLine by rw [sizeLine_eq]; decide
  first
    | exact wpAny_bind (m := Builtin.Tuple.tupleExact _) (wpAny_newObj_type (wpAny_pure ⟨_, rfl, wpAny_pure h⟩) hz)
    | exact wpAny_bind (m := Builtin.Tuple.tupleExact _) (wpAny_newObj_type (wpAny_bind (wpAny_pure (wpAny_pure ⟨_, rfl, wpAny_pure h⟩))) hz)
    | exact wpAny_bind (wpAny_bind (m := Builtin.Tuple.tupleExact _) (wpAny_newObj_type (wpAny_pure (wpAny_pure ⟨_, rfl, wpAny_pure h⟩)) hz))
    | exact wpAny_bind (wpAny_bind (m := Builtin.Tuple.tupleExact _) (wpAny_newObj_type (wpAny_pure ⟨_, rfl, wpAny_pure h⟩) hz))
theorem cut3 {value slice : Expr} {t : Addr} {u : Tok} {k : Nat} {Q : Value → Shared → Prop}
    (F : Fr h₀ L s.heap m) (N : News h₀ L s.heap news) (ht : (t, tupO [v1, v2, v3, v4, v5] k) ∈ news)
    (h : ∀ R h', Fr h₀ L h' m → News h₀ L h' ((R, tupO [v1, v2, v3] 0) :: news) → (∀ q ∈ news, q.1 < R) → Q (.ref R) { s with heap := h' })
    (hs : subscripted slice false (.ref t) (.ref s.heap.objs.size) = operate [.ref s.heap.objs.size, .ref t] (getItem (.ref t) (.ref s.heap.objs.size)))
    (hg : ∀ r, letTemporaryGo value (.ref t) r = pure ()) :
    wpAny (model prog w) A (subscriptTail value slice (.ref t) (.ref s.heap.objs.size)) Q E { s with heap := s.heap.push { cls := .type "slice", data := .fields #[.none, .int 3 u, .none] } } := by
  have e1 := (N _ ht).1
  have e2 : (s.heap.push { cls := .type "slice", data := .fields #[.none, .int 3 u, .none] }).get? t = some (tupO [v1, v2, v3, v4, v5] k) := Heap.get?_push_of_some _ e1
  have F1 := F.push { cls := .type "slice", data := .fields #[.none, .int 3 u, .none] }
  have N1 : News h₀ L (s.heap.push { cls := .type "slice", data := .fields #[.none, .int 3 u, .none] }) news := N.grown fun _ _ e => Heap.get?_push_of_some _ e
  exact subscriptTail_ops (s := { s with heap := s.heap.push { cls := .type "slice", data := .fields #[.none, .int 3 u, .none] } }) ⟨_, e2, rfl⟩ slot_tuple_getitem.lookup
    (cut3_item e2 (Heap.IsSliceOf.new ..) (h _ _ (F1.push _) (N1.push F1 _) fun q hq => Heap.lt_size (N1 q hq).1)) hs hg
end
end Mine
end
section
open PySem PySem.W PySem.Spec PySem.Calls PyProof.Rows
set_option Elab.async false
set_option maxRecDepth 100000
namespace Mine
theorem sgn_cases (x : Nat) : sgn x = 1 ∨ sgn x = -1 := by
  unfold sgn
  generalize prs (bits (blen x) x) (blen x - 1) = k
  rw [Int.fmod_eq_emod_of_nonneg _ (by decide)]
  omega
/-- the sum of the first n signs -/
def sA : Nat → Int
  | 0 => 0
  | n + 1 => sgn n + sA n
/-- the sum of the first n signs, every second one turned -/
def sB : Nat → Int
  | 0 => 0
  | n + 1 => sgn n * (1 - 2 * ((n : Nat) : Int).fmod 2) + sB n
abbrev trip (i : Nat) (t1 t2 t3 : Tok) : List Value := [.int (sA (i + 1)) t1, .int ((i + 1 : Nat) : Int) t2, .int (sB (i + 1)) t3]
def Trips (led : List (Addr × Obj)) (vs : List Value) : Prop :=
  ∀ i v, vs[i]? = some v → ∃ a t1 t2 t3 k, v = .ref a ∧ (a, tupO (trip i t1 t2 t3) k) ∈ led
def SumsJ (w : World) (rest : List (Addr × Obj)) (i : Nat) (m : Str → Option Value) (nx : List (Addr × Obj)) : Prop :=
  ∃ D W d o tab tups vs n t1 t2 t3 t4 k,
    nx = (D, listOf vs.toArray n) :: (W, tupO [.int (sA i) t1, .int (i : Int) t2, .int (sB i) t3, .int 0 t4, .ref d] k) :: (d, o) :: (tab ++ (tups ++ rest)) ∧
    m (PySem.Str.ofString "whole") = some (.ref W) ∧ m (PySem.Str.ofString "found") = some (.ref D) ∧ TabSt 16 pos1 qual1 tab ∧ Trips tups vs ∧ vs.length = i ∧
    o.IsDictOf (PySem.strKind prg w) [] ∧ o.IsDictOf (intKind prg w) [] ∧ (d == sysModules) = false ∧
    OwnOff ((D, listOf vs.toArray n) :: (W, tupO [.int (sA i) t1, .int (i : Int) t2, .int (sB i) t3, .int 0 t4, .ref d] k) :: (d, o) :: (tups ++ rest)) (tab.map (·.1)) ∧
    @Ne Nat D W ∧ @Ne Nat D d ∧ OwnOff (tups ++ rest) [D] ∧ OwnOff tups (rest.map (·.1))
set_option maxHeartbeats 2000000 in
theorem lawSums {w : World} {p : Program} {loose : List Str} {mean : ExcName → Option Value} {mg mb : Str → Option Value}
    {dp un : Nat} {gd : Option (List Code)} {cn : Str} {cs : Scope} {a : Addr} {ccd : Value} {cl : List (Str × Addr)} {outer : List Env} {A₀ : Around} {base h₀ : Heap} {L : Addr} {m : Str → Option Value} {s : Shared} {Q E : Value → Shared → Prop}
    {tab rest : List (Addr × Obj)} {b : Nat} {t1 : Tok}
    (B : Below A₀ base outer h₀) (F : Fr h₀ L s.heap m) (KX : (Mine.hd.heap_39 w.params).In h₀) (T : Top p loose mean mg mb h₀) (hk : cs.kind = .function)
    (C : CodeHd h₀ 20 16) (hT : TabSt 16 pos1 qual1 tab) (N : News h₀ L s.heap (tab ++ rest)) (hr : OwnOff rest (tab.map (·.1))) (hb : b ≤ 31) (hd : dp + 60 < recursionLimit) (hu : un + 600 < cLine)
    (hret : ∀ h' tk' tab' tups D vs n, Fr h₀ L h' m → News h₀ L h' ((D, listOf vs.toArray n) :: (tab' ++ (tups ++ rest))) → TabSt 16 pos1 qual1 tab' → Trips tups vs → vs.length = b + 1 →
      OwnOff ((D, listOf vs.toArray n) :: (tups ++ rest)) (tab'.map (·.1)) → OwnOff (tups ++ rest) [D] → OwnOff tups (rest.map (·.1)) → Q (.ref D) { s with heap := h', toks := tk' }) :
    wpAny (model prg w) (ktrTop dp un gd cn cs L a ccd cl outer) (call (.ref 54) [.int (b : Int) t1]) Q E s := by
  w_on
  refine wpAny_call ?_
  refine' code_def (f := 54) (binds := [(PySem.Str.ofString "bound", .int (b : Int) t1)]) B F KX N T rfl rfl hk ?k6 ?k7 ?k8 ?k9 ?kB ?_ ?c2 ?c3 ?c4 ?c5
  case k6 => k_is
  case k7 => k_is
  case k8 => (dsimp only; omega)
  case k9 => exact BindsTo.of_eq rfl
  case kB => exact locs rfl
  case c2 => exact rfl
  case c3 => exact rfl
  case c4 => exact rfl
  case c5 => decide
  intro g' L' h' FG' F' N' B' X' T'
  dsimp only
  k_fold
  iterate 16 (first | (k_unfold; (try dsimp only)) | (k_end; wrow_close) | walk1 | (dsimp only; walk1) | (leave1; walk_say "STEP leave1"; try dsimp only))
  rename (_ == sysModules) = false => lo0
  rename Obj.IsDictOf (PySem.strKind prg w) _ [] => hs0
  rename Obj.IsDictOf (intKind prg w) _ [] => hi0
  rename ∀ q ∈ tab ++ rest, _ => hL0
  iterate 2 (first | (k_unfold; (try dsimp only)) | (k_end; wrow_close) | walk1 | (dsimp only; walk1) | (leave1; walk_say "STEP leave1"; try dsimp only))
  rename _ ∧ AllLt _ (tab ++ rest) => hL1
  iterate 4 (first | (k_unfold; (try dsimp only)) | (k_end; wrow_close) | walk1 | (dsimp only; walk1) | (leave1; walk_say "STEP leave1"; try dsimp only))
  rename _ ∧ _ ∧ AllLt _ (tab ++ rest) => hL2
  iterate 9 (first | (k_unfold; (try dsimp only)) | (k_end; wrow_close) | walk1 | (dsimp only; walk1) | (leave1; walk_say "STEP leave1"; try dsimp only))
  dsimp only
  iterate 14 (first | (k_unfold; (try dsimp only)) | (k_end; wrow_close) | walk1 | (dsimp only; walk1) | (leave1; walk_say "STEP leave1"; try dsimp only))
  rename News g' L' _ _ => N3
  rename Fr g' L' _ _ => F3
  rename IsRange _ _ _ _ _ _ _ _ => hrng
  have N0 := show News g' L' _ (_ :: _ :: _ :: (tab ++ rest)) from fun q hq => N3 q (.tail _ hq)
  clear N3
  refine rangeLoop (SumsJ w rest) rfl hrng (small_one (by omega) (by omega) (by omega) (by omega)) (rangeSize_nat _ _) F3 N0 ⟨_, _, _, _, tab, [], [], 0, _, _, _, _, _, rfl, rfl, rfl, hT, ?_, rfl, hs0, hi0, lo0, ?_, ?_, ?_, ?_, oo_nil⟩ ?_ ?_
  · intro i v h; simp at h
  · refine oo_cons (oo_gt (allLt_mem (allLt_left hL2.2.2))) (oo_cons (oo_gt (allLt_mem (allLt_left hL1.2))) (oo_cons (oo_gt fun q hq => hL0 q (List.mem_append_left _ hq)) hr))
  · exact neN (by omega)
  · exact neN (by omega)
  · exact oo_lt (allLt_mem (allLt_right hL2.2.2))
  · intro i t m₁ nx h tk own hi hown hJ F5 N5
    obtain ⟨D, W, d, o, tab1, tups, vs, n, q1, q2, q3, q4, k, rfl, hmW, hmD, hT1, hTr, hlen, hso, hio, hlo, c1, cDW, cDd, c2, c3⟩ := hJ
    have hib : i < b + 1 := by omega
    have hi64 : i < 64 := by omega
    rw [Int.zero_add] at F5
    have em : (fun y => if y = PySem.Str.ofString "number" then some (Value.int (i : Int) t) else m₁ y) = (fun y => if y = PySem.Str.ofString "number" then some (Value.int (i : Int) t) else if y = PySem.Str.ofString "whole" then some (Value.ref W) else if y = PySem.Str.ofString "found" then some (Value.ref D) else m₁ y) := by
      funext y
      split
      · rfl
      · split
        · rename_i e; rw [e]; exact hmW
        · split
          · rename_i e; rw [e]; exact hmD
          · rfl
    rw [em] at F5
    clear em
    dsimp only
    iterate 9 (first | (k_unfold; (try dsimp only)) | (k_end; wrow_close) | walk1 | (dsimp only; walk1) | (leave1; walk_say "STEP leave1"; try dsimp only))
    have c1o : OwnOff (((D, listOf vs.toArray n) :: (W, tupO [.int (sA i) q1, .int (i : Int) q2, .int (sB i) q3, .int 0 q4, .ref d] k) :: (d, o) :: (tups ++ rest)) ++ own) (tab1.map (·.1)) := oo_app c1 fun q hq b hb => by
      obtain ⟨z, hz, rfl⟩ := List.mem_map.mp hb
      refine hown q hq _ (List.mem_map.mpr ⟨z, ?_, rfl⟩)
      simp only [List.mem_cons, List.mem_append]
      grind
    refine lawSign B' F5 X' T' rfl (C.keeps FG'.keep) hT1 (fun q hq => N5 q (by
      simp only [List.mem_cons, List.mem_append] at hq ⊢
      grind)) c1o hi64 (show dp + 1 + 30 < recursionLimit by omega) (show un + 3 + 300 < cLine by omega) ?_
    clear N5 c1 c1o
    intro h6 tk6 tab2 t6 F6 N6 hT2 c1o
    dsimp only
    have hsg := sgn_cases i
    iterate 30 (first | (k_unfold; (try dsimp only)) | (k_end; wrow_close) | walk1 | (dsimp only; walk1) | (leave1; walk_say "STEP leave1"; try dsimp only))
    dsimp only
    iterate 7 (first | (k_unfold; (try dsimp only)) | (k_end; wrow_close) | walk1 | (dsimp only; walk1) | (leave1; walk_say "STEP leave1"; try dsimp only))
    rename Obj.IsDictOf (PySem.strKind prg w) _ [] => hs6
    rename Obj.IsDictOf (intKind prg w) _ [] => hi6
    rename (_ == sysModules) = false => lo6
    rename News g' L' _ _ => N7
    rename Fr g' L' _ _ => F7
    refine addStats (rest := (D, listOf vs.toArray n) :: (tab2 ++ (tups ++ (rest ++ own)))) B' F7 X' T' rfl (fun q hq => N7 q (reord1 hq)) hso hio hlo hs6 hi6 lo6 (show dp + 1 + 30 < recursionLimit by omega) (show un + 3 + 300 < cLine by omega) ?_
    clear N7 F7 hs6 hi6 lo6
    intro h8 tk8 R d3 o3 r1 r2 r3 r4 k8 F8 N8 hs8 hi8 lo8 l8 l9
    dsimp only
    rw [show sgn i + sA i = sA (i + 1) from rfl, show sgn i * (1 - 2 * ((i : Nat) : Int).fmod 2) + sB i = sB (i + 1) from rfl, show 1 + (i : Int) = ((i + 1 : Nat) : Int) by omega, show (0 : Int) + 0 = 0 from rfl] at N8
    iterate 16 (first | (k_unfold; (try dsimp only)) | (k_end; wrow_close) | walk1 | (dsimp only; walk1) | (leave1; walk_say "STEP leave1"; try dsimp only))
    rename News g' L' _ _ => N9
    rename Fr g' L' _ _ => F9
    refine cut3 F9 N9 (.head _) ?_ (by with_unfolding_all rfl) (by intro _; with_unfolding_all rfl)
    intro Z h10 F10 N10 l10
    dsimp only
    iterate 1 (first | (k_unfold; (try dsimp only)) | (k_end; wrow_close) | walk1 | (dsimp only; walk1) | (leave1; walk_say "STEP leave1"; try dsimp only))
    have hDd3 := ltN (l8 _ (.head _))
    have hRZ := ltN (l10 _ (.head _))
    have hdZ := ltN (l10 _ (.tail _ (.head _)))
    have hDZ := ltN (l10 _ (.tail _ (.tail _ (.head _))))
    dsimp only at hDd3 hRZ hdZ hDZ
    replace l9 := ltN l9
    have hrestD : ∀ q ∈ tab2 ++ (tups ++ (rest ++ own)), q.1 ≠ D := by
      intro q hq
      rcases List.mem_append.mp hq with hq | hq
      · exact (c1o (D, listOf vs.toArray n) (List.mem_append_left _ (.head _)) _ (List.mem_map.mpr ⟨q, hq, rfl⟩)).symm
      · rcases List.mem_append.mp hq with hq | hq
        · exact c2 q (List.mem_append_left _ hq) _ (.head _)
        · rcases List.mem_append.mp hq with hq | hq
          · exact c2 q (List.mem_append_right _ hq) _ (.head _)
          · exact hown q hq _ (.head _)
    refine append_K (n := n) (news' := (Z, tupO [.int (sA (i + 1)) r1, .int ((i + 1 : Nat) : Int) r2, .int (sB (i + 1)) r3] 0) :: (R, tupO [.int (sA (i + 1)) r1, .int ((i + 1 : Nat) : Int) r2, .int (sB (i + 1)) r3, .int 0 r4, .ref d3] k8) :: (d3, o3) :: (D, listOf (vs.toArray.push (.ref Z)) (n + 1)) :: (tab2 ++ (tups ++ (rest ++ own)))) F10 N10 (.tail (neN (by dsimp only; omega)) (.tail (neN (by dsimp only; omega)) (.tail (neN (by dsimp only; omega)) (.head hrestD)))) ?_ (by rw [List.size_toArray, hlen, sizeLine_eq]; omega)
    intro h11 F11 N11
    clear N10 F10
    dsimp only
    rw [List.push_toArray] at N11
    refine wpAny_execs_nil ?_
    dsimp only [InvPostG]
    have l8t : ∀ q ∈ tab2, q.1 < d3 := fun q hq => l8 q (.tail _ (List.mem_append_left _ hq))
    have l8o : ∀ q ∈ own, q.1 < d3 := fun q hq => l8 q (.tail _ (List.mem_append_right _ (List.mem_append_right _ (List.mem_append_right _ hq))))
    have l10r : ∀ q ∈ tab2 ++ (tups ++ (rest ++ own)), q.1 < Z := fun q hq => l10 q (.tail _ (.tail _ (.tail _ hq)))
    refine InvEndG.intro (nx := (D, listOf (vs ++ [Value.ref Z]).toArray (n + 1)) :: (R, tupO [.int (sA (i + 1)) r1, .int ((i + 1 : Nat) : Int) r2, .int (sB (i + 1)) r3, .int 0 r4, .ref d3] k8) :: (d3, o3) :: (tab2 ++ (((Z, tupO [.int (sA (i + 1)) r1, .int ((i + 1 : Nat) : Int) r2, .int (sB (i + 1)) r3] 0) :: tups) ++ rest))) F11 N11
      ⟨D, R, d3, o3, tab2, (Z, tupO [.int (sA (i + 1)) r1, .int ((i + 1 : Nat) : Int) r2, .int (sB (i + 1)) r3] 0) :: tups, vs ++ [Value.ref Z], n + 1, r1, r2, r3, r4, k8, rfl, rfl, rfl, hT2, ?_, ?_, hs8, hi8, lo8, ?_, neN (by omega), neN (by omega), ?_, ?_⟩ ?_ ?_ ?_
    · intro j v hj
      rcases Nat.lt_or_ge j vs.length with h | h
      · rw [List.getElem?_append_left h] at hj
        obtain ⟨x1, x2, x3, x4, x5, x6, x7⟩ := hTr j v hj
        exact ⟨x1, x2, x3, x4, x5, x6, .tail _ x7⟩
      · rw [List.getElem?_append_right h] at hj
        have hji : j = i := by
          rcases Nat.eq_zero_or_pos (j - vs.length) with e | e
          · omega
          · rw [List.getElem?_eq_none (by rw [List.length_singleton]; omega)] at hj; cases hj
        subst hji
        rw [hlen, Nat.sub_self] at hj
        cases hj
        exact ⟨Z, r1, r2, r3, 0, rfl, .head _⟩
    · rw [List.length_append, hlen]; rfl
    · have c1h := oo_head (oo_left c1o)
      refine oo_cons (fun x hx => c1h x hx) (oo_cons (oo_gt fun q hq => Nat.lt_trans (l8t q hq) l9) (oo_cons (oo_gt l8t) (oo_cons (oo_gt fun q hq => l10r q (List.mem_append_left _ hq)) (oo_tail (oo_tail (oo_tail (oo_left c1o)))))))
    · exact oo_cons (fun x hx => by rw [List.mem_singleton.mp hx]; exact neN (by dsimp only; omega)) c2
    · exact oo_cons (oo_gt fun q hq => l10r q (List.mem_append_right _ (List.mem_append_right _ (List.mem_append_left _ hq)))) c3
    · intro q hq x hx
      obtain ⟨z, hz, rfl⟩ := List.mem_map.mp hx
      have h5 := ltN (l8o q hq)
      have h6 := ltN (l10r q (List.mem_append_right _ (List.mem_append_right _ (List.mem_append_right _ hq))))
      simp only [List.mem_cons, List.mem_append] at hz
      rcases hz with rfl | rfl | rfl | hz | (rfl | hz) | hz
      · exact hown q hq _ (.head _)
      · refine neN ?_; dsimp only; omega
      · refine neN ?_; dsimp only; omega
      · exact oo_right c1o q hq _ (List.mem_map.mpr ⟨z, hz, rfl⟩)
      · refine neN ?_; dsimp only; omega
      · exact hown q hq _ (List.mem_map.mpr ⟨z, .tail _ (.tail _ (.tail _ (List.mem_append_right _ (List.mem_append_left _ hz)))), rfl⟩)
      · exact hown q hq _ (List.mem_map.mpr ⟨z, .tail _ (.tail _ (.tail _ (List.mem_append_right _ (List.mem_append_right _ hz)))), rfl⟩)
    · intro q hq
      simp only [List.mem_cons, List.mem_append] at hq ⊢
      grind
    · intro q hq
      exact .tail _ (.tail _ (.tail _ (.tail _ (List.mem_append_right _ (List.mem_append_right _ (List.mem_append_right _ hq))))))
  · intro m₁ nx h tk hJ F5 N5
    obtain ⟨D, W, d, o, tab1, tups, vs, n, q1, q2, q3, q4, k, rfl, hmW, hmD, hT1, hTr, hlen, hso, hio, hlo, c1, cDW, cDd, c2, c3⟩ := hJ
    have em : m₁ = (fun y => if y = PySem.Str.ofString "found" then some (Value.ref D) else m₁ y) := by
      funext y
      split
      · rename_i e; rw [e]; exact hmD
      · rfl
    rw [em] at F5
    clear em
    dsimp only
    iterate 4 (first | (k_unfold; (try dsimp only)) | (k_end; wrow_close) | walk1 | (dsimp only; walk1) | (leave1; walk_say "STEP leave1"; try dsimp only))
    rename News h₀ L _ _ => N8
    refine hret h _ tab1 tups D vs n (by assumption) (fun q hq => N8 q ?_) hT1 hTr (by omega) (oo_cons (oo_head c1) (oo_tail (oo_tail (oo_tail c1)))) c2 c3
    simp only [List.mem_cons, List.mem_append] at hq ⊢
    grind
end Mine
end
section
open PySem PySem.W PySem.Spec PySem.Calls PyProof.Rows
set_option Elab.async false
set_option maxRecDepth 100000
namespace Mine
section
variable {prog : Program} {w : World} {A : Around} {E : Value → Shared → Prop} {s : Shared} {env : Env} {h₀ : Heap} {body : List Stmt} {Q : Flow → Shared → Prop}
/-- a loop over enumerate of a list, by a word of the turn's number, the frame and the ledger -/
theorem enumLoop {elts : List Expr} {k : Nat} {pos : Pos} {l : Addr} {vs : List Value} {n : Nat} {m₀ : Str → Option Value} {news : List (Addr × Obj)} (J : Nat → (Str → Option Value) → List (Addr × Obj) → Prop)
    (hh : A.handled = none) (F : Fr h₀ env.locals s.heap m₀) (N : News h₀ env.locals s.heap news) (hm : (l, listOf vs.toArray n) ∈ news) (hj : J 0 m₀ news) (hJm : ∀ i m nx, J i m nx → (l, listOf vs.toArray n) ∈ nx)
    (turn : ∀ i v m₁ nx T t h tk (I : Addr) oe oi, vs[i]? = some v → J i m₁ nx → IsTup h T #[.int (i : Int) t, v] → OwnOff nx [I + 1, I] → Fr h₀ env.locals h m₁ → News h₀ env.locals h ((I + 1, oe) :: (I, oi) :: nx) →
      wpAny (model prog w) A (assign (.Tuple elts k pos) env (.ref T)) (fun _ s₂ => wpAny (model prog w) A (execs body env) (UnrPostW h₀ env.locals { s with heap := h, toks := tk } [(I + 1, oe), (I, oi)] (fun m' n' => J (i + 1) m' n') Q) E s₂) E { s with heap := h, toks := tk })
    (done : ∀ m₁ nx h tk, J vs.length m₁ nx → Fr h₀ env.locals h m₁ → News h₀ env.locals h nx → Q .next { s with heap := h, toks := tk }) :
    wpAny (model prog w) A (call (.type "enumerate") [.ref l]) (fun xv s₁ => wpAny (model prog w) A (pyIter xv) (fun it s₂ => TurnsAt prog w A h₀ env (.Tuple elts k pos) body Q E it s₂) E s₁) E s := by
  refine ktu_enum (lo := listOf vs.toArray n) (vs := vs) hh F N hm rfl rfl rfl fun I hI => ?_
  have all : ∀ r i m nx, i + r.length = vs.length → (∀ j v, r[j]? = some v → vs[i + j]? = some v) → J i m nx → OwnOff nx [I + 1, I] → ItemsRest prog w A E h₀ env (.Tuple elts k pos) body Q s [(I + 1, "enumerate"), (I, "list_iterator")] [(l, listOf vs.toArray n)] (enumItems i r) m nx := by
    intro r
    induction r with
    | nil =>
      intro i m nx e _ hJ ho h tk F' N'
      have : i = vs.length := by simpa using e
      subst this
      exact done m nx h tk hJ F' N'
    | cons v r ih =>
      intro i m nx e hg hJ ho
      refine ItemsRest.pair fun T t h tk hT F' => AllObj.cons fun oe _ => AllObj.cons fun oi _ => AllObj.nil fun N' => ?_
      refine wpAny_mono (turn i v m nx T t h tk I oe oi (by simpa using hg 0 v rfl) hJ hT ho F' N') (fun _ s₂ h₂ => wpAny_mono h₂ (fun f s₃ p => ?_) fun _ _ e => e) fun _ _ e => e
      have fin : ∀ s₃, UnrEndW h₀ env.locals { s with heap := h, toks := tk } [(I + 1, oe), (I, oi)] (fun m' n' => J (i + 1) m' n') s₃ → UnrEndW h₀ env.locals { s with heap := h, toks := tk } [(I + 1, oe), (I, oi)] (fun m' n' => SubL [(l, listOf vs.toArray n)] n' ∧ ItemsRest prog w A E h₀ env (.Tuple elts k pos) body Q s [(I + 1, "enumerate"), (I, "list_iterator")] [(l, listOf vs.toArray n)] (enumItems (i + 1) r) m' n') s₃ := by
        rintro s₃ ⟨h', tk', m', n', e', F₂, N₂, ho₂, hJ₂⟩
        refine ⟨h', tk', m', n', e', F₂, N₂, ho₂, And.intro (hJm _ _ _ hJ₂) trivial, ih (i + 1) m' n' (by simp only [List.length_cons] at e; omega) (fun j u hu => ?_) hJ₂ fun p hp b hb => ?_⟩
        · have := hg (j + 1) u (by simpa using hu)
          rw [show i + (j + 1) = i + 1 + j by omega] at this
          exact this
        · rcases List.mem_cons.mp hb with rfl | hb
          · exact ho₂ p hp (I + 1, oe) (.head _)
          · rw [List.mem_singleton.mp hb]
            exact ho₂ p hp (I, oi) (.tail _ (.head _))
      cases f with
      | ret v => exact p
      | brk => exact p
      | next => exact fin _ p
      | cont => exact fin _ p
  exact all vs 0 m₀ news (by simp) (fun j v h => by rw [Nat.zero_add]; exact h) hj fun p hp b hb => by
    have hlt := ltN (hI p hp)
    rcases List.mem_cons.mp hb with rfl | hb
    · refine neN ?_; omega
    · rw [List.mem_singleton.mp hb]; refine neN ?_; omega
end
end Mine
end
section
open PySem PySem.W PySem.Spec PySem.Calls PyProof.Rows
set_option Elab.async false
set_option maxRecDepth 100000
namespace Mine
theorem fac_turn : ∀ i : Fin 32, 0 < sA (i.val + 1) ∧ sA (i.val + 1) * sA (i.val + 1) < 6 * (((i.val + 1 : Nat)) : Int) ∧ 3 * ((i.val : Nat) : Int) < 5 * sA (i.val + 1) * sA (i.val + 1) ∧ sgn (2 * i.val) = sgn i.val ∧ sgn (2 * i.val + 1) = sgn i.val * (1 - 2 * ((i.val : Nat) : Int).fmod 2) ∧ 0 ≤ sB (i.val + 1) ∧ sA (i.val + 1) ≤ 32 ∧ sB (i.val + 1) ≤ 32 := by decide +kernel
theorem fac_pair : ∀ i : Fin 16, sA (2 * i.val + 1 + 1) = sA (i.val + 1) + sB (i.val + 1) ∧ sB (2 * i.val + 1 + 1) = sA (i.val + 1) - sB (i.val + 1) := by decide +kernel
theorem fac_half : ∀ h : Fin 4, sA (4 ^ h.val - 1 + 1) = (2 ^ h.val : Nat) ∨ 31 < 4 ^ h.val - 1 := by decide +kernel
def cntW (n : Nat) (x : Int) : Nat := ((List.range n).filter fun i => decide (sA (i + 1) = x)).length
theorem fac_cnt : ∀ b : Fin 32, ∀ x : Fin 5, 1 ≤ x.val → 2 * x.val * x.val ≤ b.val → cntW (b.val + 1) (x.val : Nat) ≤ x.val := by decide +kernel
theorem fac_whole : ∀ x : Fin 4, 1 ≤ x.val → cntW 32 (x.val : Nat) = x.val := by decide +kernel
end Mine
end
section
open PySem PySem.W PySem.Spec PySem.Calls PyProof.Rows
set_option Elab.async false
set_option maxRecDepth 100000
namespace Mine
def lawS : Stmt := nthS PySem.Challenge.pw_hi0001_01.main.body 9
def scopeOf : Stmt → Scope
  | .FunctionDef _ _ _ _ _ _ sc _ _ _ => sc
  | _ => default
theorem oo_hd1 {c : Addr} {o : Obj} {l r : List (Addr × Obj)} (h : OwnOff ((c, o) :: l) (r.map (·.1))) : OwnOff r [c] := fun q hq x hx => by
  rw [List.mem_singleton.mp hx]
  exact (h (c, o) (.head _) _ (List.mem_map.mpr ⟨q, hq, rfl⟩)).symm
def LawSt (L : Addr) (b : Nat) (D : Addr) (vs : List Value) (n : Nat) (tups : List (Addr × Obj)) (oH : Obj) (m : Str → Option Value) (nx : List (Addr × Obj)) : Prop :=
  ∃ oW x tab1 tab2 tb, nx = (L + 1, oW) :: (L + 1 + 1, oH) :: (D, listOf vs.toArray n) :: (tab1 ++ (tab2 ++ tups)) ∧ oW.data = Data.cell x ∧ TabSt 16 pos1 qual1 tab1 ∧ TabSt 23 pos2 qual2 tab2 ∧
    m (PySem.Str.ofString "bound") = some (.int (b : Int) tb) ∧ m (PySem.Str.ofString "sums") = some (.ref D) ∧
    OwnOff ((L + 1, oW) :: (L + 1 + 1, oH) :: (D, listOf vs.toArray n) :: (tab2 ++ tups)) (tab1.map (·.1)) ∧ OwnOff ((L + 1, oW) :: (L + 1 + 1, oH) :: (D, listOf vs.toArray n) :: tups) (tab2.map (·.1))
set_option maxHeartbeats 4000000 in
theorem forEnum {w : World} {p : Program} {loose : List Str} {mean : ExcName → Option Value} {mg mb : Str → Option Value}
    {dp un : Nat} {gd : Option (List Code)} {a : Addr} {ccd : Value} {outer : List Env} {A₀ : Around} {base h₀ : Heap} {L : Addr} {m : Str → Option Value} {s : Shared} {Q : Flow → Shared → Prop} {E : Value → Shared → Prop}
    {b : Nat} {D : Addr} {vs : List Value} {n : Nat} {tups nx : List (Addr × Obj)} {oH : Obj}
    (B : Below A₀ base outer h₀) (F : Fr h₀ L s.heap m) (KX : (Mine.hd.heap_39 w.params).In h₀) (T : Top p loose mean mg mb h₀)
    (C1 : CodeHd h₀ 20 16) (C2 : CodeHd h₀ 27 23) (N : News h₀ L s.heap nx) (hst : LawSt L b D vs n tups oH m nx) (hTr : Trips tups vs) (hlen : vs.length = b + 1) (hb : b ≤ 31) (ho : OwnOff tups [L + 1]) (hDL : @Ne Nat D (L + 1))
    (hd : dp + 60 < recursionLimit) (hu : un + 600 < cLine)
    (hE : PassesOwn (model prg w) (ktrTop dp un gd (PySem.Str.ofString "law") (scopeOf lawS) L a ccd [(PySem.Str.ofString "worth", L + 1 + 1), (PySem.Str.ofString "whole", L + 1)] outer) (envX (PySem.Str.ofString "law") (scopeOf lawS) L a ccd [(PySem.Str.ofString "worth", L + 1 + 1), (PySem.Str.ofString "whole", L + 1)]) E)
    (hQ : ∀ h' tk' m' nx', Fr h₀ L h' m' → News h₀ L h' nx' → LawSt L b D vs n tups oH m' nx' → Q .next { s with heap := h', toks := tk' }) :
    wpAny (model prg w) (ktrTop dp un gd (PySem.Str.ofString "law") (scopeOf lawS) L a ccd [(PySem.Str.ofString "worth", L + 1 + 1), (PySem.Str.ofString "whole", L + 1)] outer) (exec (nthS (bodyOf lawS) 2) (envX (PySem.Str.ofString "law") (scopeOf lawS) L a ccd [(PySem.Str.ofString "worth", L + 1 + 1), (PySem.Str.ofString "whole", L + 1)])) Q E s := by
  w_on
  generalize hsc : scopeOf lawS = sc at hE ⊢
  generalize hfs : nthS (bodyOf lawS) 2 = fs
  conv at hsc => lhs; whnf
  conv at hfs => lhs; whnf
  subst hsc hfs
  obtain ⟨oW, x, tab1, tab2, tb, rfl, dW, hT1, hT2, hmb, hms, c1, c2⟩ := id hst
  refine For_turns (hE := hE) F ?_
  have em : m = (fun y => if y = PySem.Str.ofString "bound" then some (Value.int (b : Int) tb) else if y = PySem.Str.ofString "sums" then some (Value.ref D) else m y) := by
    funext y
    split
    · rename_i e; rw [e]; exact hmb
    · split
      · rename_i e; rw [e]; exact hms
      · rfl
  rw [em] at F
  clear em
  iterate 6 (first | (k_unfold; (try dsimp only)) | (k_end; wrow_close) | walk1 | (dsimp only; walk1) | (leave1; walk_say "STEP leave1"; try dsimp only))
  refine' enumLoop (fun _ => LawSt L b D vs n tups oH) rfl ?F ?N ?M ?_ ?_ ?_ ?_
  case F => exact F
  case N => exact N
  case M => exact .tail _ (.tail _ (.head _))
  · exact ⟨oW, x, tab1, tab2, tb, rfl, dW, hT1, hT2, rfl, rfl, c1, c2⟩
  · rintro i m nx ⟨oW, x, tab1, tab2, tb, rfl, h⟩
    exact .tail _ (.tail _ (.head _))
  · clear hst hms hmb c1 c2 hT1 hT2 dW N F oW x tab1 tab2 tb
    intro i v m₁ nx Tp t h tk I oe oi hv hJ hTup hoI F N
    obtain ⟨oW, x, tab1, tab2, tb, rfl, dW, hT1, hT2, hmb, hms, c1, c2⟩ := hJ
    obtain ⟨aT, t1, t2, t3, k3, rfl, hin⟩ := hTr i v hv
    have hib : i < b + 1 := by
      rcases Nat.lt_or_ge i vs.length with h | h
      · omega
      · rw [List.getElem?_eq_none h] at hv; cases hv
    have fac := fac_turn ⟨i, by omega⟩
    dsimp only at fac
    obtain ⟨f1, f2, f3, f4, f5, f6, f7, f8⟩ := fac
    have em : m₁ = (fun y => if y = PySem.Str.ofString "bound" then some (Value.int (b : Int) tb) else if y = PySem.Str.ofString "sums" then some (Value.ref D) else m₁ y) := by
      funext y
      split
      · rename_i e; rw [e]; exact hmb
      · split
        · rename_i e; rw [e]; exact hms
        · rfl
    rw [em] at F
    clear em
    have hoL : OwnOff (tab1 ++ (tab2 ++ tups)) [L + 1] := oo_app (oo_hd1 c1) (oo_app (oo_hd1 c2) ho)
    have N1 : News h₀ L h ((aT, tupO (trip i t1 t2 t3) k3) :: (I + 1, oe) :: (I, oi) :: (L + 1, oW) :: (L + 1 + 1, oH) :: (D, listOf vs.toArray n) :: (tab1 ++ (tab2 ++ tups))) := fun q hq => by
      rcases List.mem_cons.mp hq with rfl | hq
      · exact N _ (.tail _ (.tail _ (.tail _ (.tail _ (.tail _ (List.mem_append_right _ (List.mem_append_right _ hin)))))))
      · exact N _ hq
    have haL := neN (ho _ hin _ (.head _))
    have hIL : @Ne Nat I (L + 1) := neN (Ne.symm (hoI _ (.head _) _ (.tail _ (.head _))))
    have hIL1 : @Ne Nat (I + 1) (L + 1) := neN (Ne.symm (hoI _ (.head _) _ (.head _)))
    dsimp only at haL
    clear N
    replace F : Fr h₀ L h _ := F
    generalize hR : tab1 ++ (tab2 ++ tups) = R at N1 hoL
    iterate 12 (first | (k_unfold; (try dsimp only)) | (k_end; wrow_close) | walk1 | (dsimp only; walk1) | (leave1; walk_say "STEP leave1"; try dsimp only))
    dsimp only
    iterate 19 (first | (k_unfold; (try dsimp only)) | (k_end; wrow_close) | walk1 | (dsimp only; walk1) | (leave1; walk_say "STEP leave1"; try dsimp only))
    · exfalso; omega
    iterate 38 (first | (k_unfold; (try dsimp only)) | (k_end; wrow_close) | walk1 | (dsimp only; walk1) | (leave1; walk_say "STEP leave1"; try dsimp only))
    dsimp only
    iterate 16 (first | (k_unfold; (try dsimp only)) | (k_end; wrow_close) | walk1 | (dsimp only; walk1) | (leave1; walk_say "STEP leave1"; try dsimp only))
    rename Fr h₀ L _ _ => F2
    rename News h₀ L _ _ => N2
    subst hR
    rename_i oW2 _ _ _ _ _
    have c1R : OwnOff ((aT, tupO (trip i t1 t2 t3) k3) :: (I + 1, oe) :: (I, oi) :: (L + 1, oW2) :: (L + 1 + 1, oH) :: (D, listOf vs.toArray n) :: (tab2 ++ tups)) (tab1.map (·.1)) :=
      oo_cons (fun x hx => oo_tail (oo_tail (oo_tail c1)) _ (List.mem_append_right _ hin) _ hx) (oo_cons (fun x hx => by
        obtain ⟨z, hz, rfl⟩ := List.mem_map.mp hx
        exact Ne.symm (hoI z (.tail _ (.tail _ (.tail _ (List.mem_append_left _ hz)))) _ (.head _))) (oo_cons (fun x hx => by
        obtain ⟨z, hz, rfl⟩ := List.mem_map.mp hx
        exact Ne.symm (hoI z (.tail _ (.tail _ (.tail _ (List.mem_append_left _ hz)))) _ (.tail _ (.head _)))) (oo_cons (fun x hx => oo_head c1 x hx) (oo_tail c1))))
    rw [show (2 : Int) * (i : Int) = ((2 * i : Nat) : Int) by omega]
    refine lawSign B F2 KX T rfl C1 hT1 (fun q hq => N2 q (by
      simp only [List.mem_cons, List.mem_append] at hq ⊢
      grind)) c1R (by omega) (show dp + 30 < recursionLimit by omega) (show un + 300 < cLine by omega) ?_
    clear N2 F2 hT1 c1R c1
    intro h3 tk3 tab3 t6 F3 N3 hT3 c3
    dsimp only
    rw [f4]
    iterate 7 (first | (k_unfold; (try dsimp only)) | (k_end; wrow_close) | walk1 | (dsimp only; walk1) | (leave1; walk_say "STEP leave1"; try dsimp only))
    rename Fr h₀ L _ _ => F4
    rename News h₀ L _ _ => N4
    refine lawSign B F4 KX T rfl C1 hT3 N4 c3 (by omega) (show dp + 30 < recursionLimit by omega) (show un + 300 < cLine by omega) ?_
    clear N4 F4 hT3 c3
    intro h5 tk5 tab5 t7 F5 N5 hT5 c5
    dsimp only
    have hsg := sgn_cases i
    iterate 4 (first | (k_unfold; (try dsimp only)) | (k_end; wrow_close) | walk1 | (dsimp only; walk1) | (leave1; walk_say "STEP leave1"; try dsimp only))
    · exact absurd rfl ‹sgn i ≠ sgn i›
    iterate 15 (first | (k_unfold; (try dsimp only)) | (k_end; wrow_close) | walk1 | (dsimp only; walk1) | (leave1; walk_say "STEP leave1"; try dsimp only))
    rename Fr h₀ L _ _ => F6
    rename News h₀ L _ _ => N6
    rw [show (2 : Int) * (i : Int) + 1 = ((2 * i + 1 : Nat) : Int) by omega]
    refine lawSign B F6 KX T rfl C1 hT5 N6 c5 (by omega) (show dp + 30 < recursionLimit by omega) (show un + 300 < cLine by omega) ?_
    clear N6 F6 hT5 c5
    intro h7 tk7 tab7 t8 F7 N7 hT7 c7
    dsimp only
    rw [f5]
    iterate 8 (first | (k_unfold; (try dsimp only)) | (k_end; wrow_close) | walk1 | (dsimp only; walk1) | (leave1; walk_say "STEP leave1"; try dsimp only))
    rename Fr h₀ L _ _ => F8
    rename News h₀ L _ _ => N8
    refine lawSign B F8 KX T rfl C1 hT7 N8 c7 (by omega) (show dp + 30 < recursionLimit by omega) (show un + 300 < cLine by omega) ?_
    clear N8 F8 hT7 c7
    intro h9 tk9 tab9 t9 F9 N9 hT9 c9
    dsimp only
    iterate 15 (first | (k_unfold; (try dsimp only)) | (k_end; wrow_close) | walk1 | (dsimp only; walk1) | (leave1; walk_say "STEP leave1"; try dsimp only))
    · exact absurd rfl ‹sgn i * (1 - 2 * ((i : Nat) : Int).fmod 2) ≠ _›
    iterate 2 (first | (k_unfold; (try dsimp only)) | (k_end; wrow_close) | walk1 | (dsimp only; walk1) | (leave1; walk_say "STEP leave1"; try dsimp only))
    dsimp only
    iterate 19 (first | (k_unfold; (try dsimp only)) | (k_end; wrow_close) | walk1 | (dsimp only; walk1) | (leave1; walk_say "STEP leave1"; try dsimp only))
    rename Fr h₀ L _ _ => F10
    rename News h₀ L _ _ => N10
    refine int2digits B F10 KX T rfl C1 hT9 N10 c9 (by omega) (show dp + 20 < recursionLimit by omega) (show un + 200 < cLine by omega) ?_
    clear N10 F10
    intro h11 tk11 tab11 D' vs' n' F11 N11 hT11 c11 lD' hD' hvs'
    dsimp only
    have c2R : OwnOff ((aT, tupO (trip i t1 t2 t3) k3) :: (I + 1, oe) :: (I, oi) :: (L + 1, oW2) :: (L + 1 + 1, oH) :: (D, listOf vs.toArray n) :: (D', listOf vs'.toArray n') :: (tab11 ++ tups)) (tab2.map (·.1)) :=
      oo_cons (fun x hx => oo_tail (oo_tail (oo_tail c2)) _ hin _ hx) (oo_cons (fun x hx => by
        obtain ⟨z, hz, rfl⟩ := List.mem_map.mp hx
        exact Ne.symm (hoI z (.tail _ (.tail _ (.tail _ (List.mem_append_right _ (List.mem_append_left _ hz))))) _ (.head _))) (oo_cons (fun x hx => by
        obtain ⟨z, hz, rfl⟩ := List.mem_map.mp hx
        exact Ne.symm (hoI z (.tail _ (.tail _ (.tail _ (List.mem_append_right _ (List.mem_append_left _ hz))))) _ (.tail _ (.head _)))) (oo_cons (fun x hx => oo_head c2 x hx) (oo_cons (fun x hx => oo_head (oo_tail c2) x hx) (oo_cons (fun x hx => oo_head (oo_tail (oo_tail c2)) x hx)
        (oo_cons (oo_gt fun q hq => lD' q (List.mem_append_right _ (.tail _ (.tail _ (.tail _ (.tail _ (.tail _ (.tail _ (List.mem_append_left _ hq)))))))))
          (oo_app (oo_comm (oo_left (oo_tail (oo_tail (oo_tail (oo_tail (oo_tail (oo_tail c11)))))))) (oo_tail (oo_tail (oo_tail c2))))))))))
    iterate 4 (first | (k_unfold; (try dsimp only)) | (k_end; wrow_close) | walk1 | (dsimp only; walk1) | (leave1; walk_say "STEP leave1"; try dsimp only))
    rename Fr h₀ L _ _ => F12
    rename News h₀ L _ _ => N12
    refine digits2int B F12 KX T rfl C2 hT2 (fun q hq => N12 q (by
      simp only [List.mem_cons, List.mem_append] at hq ⊢
      grind)) c2R (.tail _ (.tail _ (.tail _ (.tail _ (.tail _ (.tail _ (.head _))))))) hvs' (bits01 _ _) ?_ (show dp + 20 < recursionLimit by omega) (show un + 200 < cLine by omega) ?_
    · rw [bits_length]
      exact Nat.le_trans (blen_facts i (by omega)).1 (by decide)
    clear N12 F12
    intro h13 tk13 tab13 t13 F13 N13 hT13 c13
    dsimp only
    rw [unb_bits _ _ (blen_facts i (by omega)).2.1]
    have N14 : News h₀ L h13 ((aT, tupO (trip i t1 t2 t3) k3) :: (I + 1, oe) :: (I, oi) :: (L + 1, oW2) :: (L + 1 + 1, oH) :: (D, listOf vs.toArray n) :: (D', listOf vs'.toArray n') :: (tab11 ++ (tab13 ++ tups))) := fun q hq => N13 q (by
      simp only [List.mem_cons, List.mem_append] at hq ⊢
      grind)
    clear N13
    iterate 5 (first | (k_unfold; (try dsimp only)) | (k_end; wrow_close) | walk1 | (dsimp only; walk1) | (leave1; walk_say "STEP leave1"; try dsimp only))
    · exact absurd rfl ‹((i : Nat) : Int) ≠ _›
    iterate 9 (first | (k_unfold; (try dsimp only)) | (k_end; wrow_close) | walk1 | (dsimp only; walk1) | (leave1; walk_say "STEP leave1"; try dsimp only))
    dsimp only
    have fin : ∀ (h' : Heap) (tk' : Nat) (m' : Str → Option Value), m' (PySem.Str.ofString "bound") = some (.int (b : Int) tb) → m' (PySem.Str.ofString "sums") = some (.ref D) → Fr h₀ L h' m' →
        News h₀ L h' ((aT, tupO (trip i t1 t2 t3) k3) :: (I + 1, oe) :: (I, oi) :: (L + 1, oW2) :: (L + 1 + 1, oH) :: (D, listOf vs.toArray n) :: (D', listOf vs'.toArray n') :: (tab11 ++ (tab13 ++ tups))) →
        UnrEndW h₀ L { s with heap := h, toks := tk } [(I + 1, oe), (I, oi)] (fun m' n' => LawSt L b D vs n tups oH m' n') { s with heap := h', toks := tk' } := by
      intro h' tk' m' e1 e2 F' N'
      refine ⟨h', tk', m', (L + 1, oW2) :: (L + 1 + 1, oH) :: (D, listOf vs.toArray n) :: (tab11 ++ (tab13 ++ tups)), rfl, F', fun q hq => N' q ?_, ?_, oW2, _, tab11, tab13, tb, rfl, (by assumption), hT11, hT13, e1, e2, ?_, ?_⟩
      · simp only [List.mem_cons, List.mem_append, List.cons_append, List.nil_append] at hq ⊢
        grind
      · have o11 := oo_tail c11
        have o13 := oo_tail c13
        have x1 : ∀ q ∈ tab11, q.1 ≠ I + 1 ∧ q.1 ≠ I := fun q hq => ⟨Ne.symm (oo_head o11 _ (List.mem_map.mpr ⟨q, hq, rfl⟩)), Ne.symm (oo_head (oo_tail o11) _ (List.mem_map.mpr ⟨q, hq, rfl⟩))⟩
        have x2 : ∀ q ∈ tab13, q.1 ≠ I + 1 ∧ q.1 ≠ I := fun q hq => ⟨Ne.symm (oo_head o13 _ (List.mem_map.mpr ⟨q, hq, rfl⟩)), Ne.symm (oo_head (oo_tail o13) _ (List.mem_map.mpr ⟨q, hq, rfl⟩))⟩
        have x3 : ∀ q ∈ (L + 1, oW) :: (L + 1 + 1, oH) :: (D, listOf vs.toArray n) :: (tab1 ++ (tab2 ++ tups)), q.1 ≠ I + 1 ∧ q.1 ≠ I := fun q hq => ⟨hoI q hq _ (.head _), hoI q hq _ (.tail _ (.head _))⟩
        have x4 : ∀ q ∈ (L + 1, oW2) :: (L + 1 + 1, oH) :: (D, listOf vs.toArray n) :: (tab11 ++ (tab13 ++ tups)), q.1 ≠ I + 1 ∧ q.1 ≠ I := by
          intro q hq
          rcases List.mem_cons.mp hq with rfl | hq
          · exact x3 (L + 1, oW) (.head _)
          rcases List.mem_cons.mp hq with rfl | hq
          · exact x3 _ (.tail _ (.head _))
          rcases List.mem_cons.mp hq with rfl | hq
          · exact x3 _ (.tail _ (.tail _ (.head _)))
          rcases List.mem_append.mp hq with hq | hq
          · exact x1 q hq
          rcases List.mem_append.mp hq with hq | hq
          · exact x2 q hq
          · exact x3 q (.tail _ (.tail _ (.tail _ (List.mem_append_right _ (List.mem_append_right _ hq)))))
        intro q hq p hp
        rcases List.mem_cons.mp hp with rfl | hp
        · exact (x4 q hq).1
        · rw [List.mem_singleton.mp hp]
          exact (x4 q hq).2
      · have o11 := oo_tail (oo_tail (oo_tail c11))
        have o13 := oo_tail (oo_tail (oo_tail (oo_tail (oo_tail (oo_tail (oo_tail c13))))))
        refine oo_cons (oo_head o11) (oo_cons (oo_head (oo_tail o11)) (oo_cons (oo_head (oo_tail (oo_tail o11))) (oo_app (oo_comm (oo_left o13)) (oo_right (oo_tail (oo_tail (oo_tail o11)))))))
      · have o13 := oo_tail (oo_tail (oo_tail c13))
        refine oo_cons (oo_head o13) (oo_cons (oo_head (oo_tail o13)) (oo_cons (oo_head (oo_tail (oo_tail o13))) (oo_right (oo_tail (oo_tail (oo_tail (oo_tail o13)))))))
    iterate 17 (first | (k_unfold; (try dsimp only)) | (k_end; wrow_close) | walk1 | (dsimp only; walk1) | (leave1; walk_say "STEP leave1"; try dsimp only))
    · have hq1 : 2 * i + 1 ≤ b := by omega
      have fp := fac_pair ⟨i, by omega⟩
      dsimp only at fp
      obtain ⟨p1, p2⟩ := fp
      have hv2 : vs[2 * i + 1]? = some (vs[2 * i + 1]'(by omega)) := List.getElem?_eq_getElem (by omega)
      obtain ⟨aU, u1, u2, u3, k4, hvU, hinU⟩ := hTr _ _ hv2
      rw [hvU] at hv2
      dsimp only [trip] at hinU
      rw [p1, p2] at hinU
      iterate 12 (first | (k_unfold; (try dsimp only)) | (k_end; wrow_close) | walk1 | (dsimp only; walk1) | (leave1; walk_say "STEP leave1"; try dsimp only))
      dsimp only
      rename News h₀ L _ _ => N16
      refine kim_list (l := vs) N16 (.tail _ (.tail _ (.tail _ (.tail _ (.tail _ (.head _)))))) rfl rfl (by omega) (by omega) (x := .ref aU) ?_ ?_
      · rw [show (2 * (i : Int) + 1).toNat = 2 * i + 1 by omega]
        exact hv2
      have N17 : News h₀ L _ _ := fun q hq => (List.mem_cons.mp hq).elim (fun e => e ▸ N16 _ (.tail _ (.tail _ (.tail _ (.tail _ (.tail _ (.tail _ (.tail _ (List.mem_append_right _ (List.mem_append_right _ hinU)))))))))) (N16 q)
      iterate 10 (first | (k_unfold; (try dsimp only)) | (k_end; wrow_close) | walk1 | (dsimp only; walk1) | (leave1; walk_say "STEP leave1"; try dsimp only))
      · exact absurd rfl ‹sA (i + 1) + sB (i + 1) ≠ _›
      dsimp only
      clear N16
      iterate 29 (first | (k_unfold; (try dsimp only)) | (k_end; wrow_close) | walk1 | (dsimp only; walk1) | (leave1; walk_say "STEP leave1"; try dsimp only))
      rename News h₀ L _ _ => N18
      dsimp only
      refine kim_list (l := vs) N18 (.tail _ (.tail _ (.tail _ (.tail _ (.tail _ (.tail _ (.head _))))))) rfl rfl (by omega) (by omega) (x := .ref aU) ?_ ?_
      · rw [show (2 * (i : Int) + 1).toNat = 2 * i + 1 by omega]
        exact hv2
      iterate 10 (first | (k_unfold; (try dsimp only)) | (k_end; wrow_close) | walk1 | (dsimp only; walk1) | (leave1; walk_say "STEP leave1"; try dsimp only))
      · exact absurd rfl ‹sA (i + 1) - sB (i + 1) ≠ _›
      dsimp only
      iterate 4 (first | (k_unfold; (try dsimp only)) | (k_end; wrow_close) | walk1 | (dsimp only; walk1) | (leave1; walk_say "STEP leave1"; try dsimp only))
      rename Fr h₀ L _ _ => F20
      rename News h₀ L _ _ => N20
      exact fin _ _ _ rfl rfl F20 fun q hq => N20 q (.tail _ hq)
    dsimp only
    iterate 22 (first | (k_unfold; (try dsimp only)) | (k_end; wrow_close) | walk1 | (dsimp only; walk1) | (leave1; walk_say "STEP leave1"; try dsimp only))
    rename Fr h₀ L _ _ => F20
    rename News h₀ L _ _ => N20
    exact fin _ _ _ rfl rfl F20 N20
  · intro m₁ nx h tk hJ F N
    exact hQ h tk m₁ nx F N hJ
end Mine
end
section
open PySem PySem.W PySem.Spec PySem.Calls PyProof.Rows
set_option Elab.async false
set_option maxRecDepth 100000
namespace Mine
set_option maxHeartbeats 4000000 in
theorem forHalf {w : World} {p : Program} {loose : List Str} {mean : ExcName → Option Value} {mg mb : Str → Option Value}
    {dp un : Nat} {gd : Option (List Code)} {a : Addr} {ccd : Value} {outer : List Env} {A₀ : Around} {base h₀ : Heap} {L : Addr} {m : Str → Option Value} {s : Shared} {Q : Flow → Shared → Prop} {E : Value → Shared → Prop}
    {b : Nat} {D : Addr} {vs : List Value} {n : Nat} {tups nx : List (Addr × Obj)} {oH : Obj}
    (B : Below A₀ base outer h₀) (F : Fr h₀ L s.heap m) (KX : (Mine.hd.heap_39 w.params).In h₀) (T : Top p loose mean mg mb h₀)
    (N : News h₀ L s.heap nx) (hst : LawSt L b D vs n tups oH m nx) (hTr : Trips tups vs) (hlen : vs.length = b + 1) (hb : b ≤ 31)
    (hE : PassesOwn (model prg w) (ktrTop dp un gd (PySem.Str.ofString "law") (scopeOf lawS) L a ccd [(PySem.Str.ofString "worth", L + 1 + 1), (PySem.Str.ofString "whole", L + 1)] outer) (envX (PySem.Str.ofString "law") (scopeOf lawS) L a ccd [(PySem.Str.ofString "worth", L + 1 + 1), (PySem.Str.ofString "whole", L + 1)]) E)
    (hQ : ∀ h' tk' m' nx', Fr h₀ L h' m' → News h₀ L h' nx' → LawSt L b D vs n tups oH m' nx' → Q .next { s with heap := h', toks := tk' }) :
    wpAny (model prg w) (ktrTop dp un gd (PySem.Str.ofString "law") (scopeOf lawS) L a ccd [(PySem.Str.ofString "worth", L + 1 + 1), (PySem.Str.ofString "whole", L + 1)] outer) (exec (nthS (bodyOf lawS) 3) (envX (PySem.Str.ofString "law") (scopeOf lawS) L a ccd [(PySem.Str.ofString "worth", L + 1 + 1), (PySem.Str.ofString "whole", L + 1)])) Q E s := by
  w_on
  generalize hsc : scopeOf lawS = sc at hE ⊢
  generalize hfs : nthS (bodyOf lawS) 3 = fs
  conv at hsc => lhs; whnf
  conv at hfs => lhs; whnf
  subst hsc hfs
  obtain ⟨oW, x, tab1, tab2, tb, rfl, dW, hT1, hT2, hmb, hms, c1, c2⟩ := id hst
  have em : m = (fun y => if y = PySem.Str.ofString "bound" then some (Value.int (b : Int) tb) else if y = PySem.Str.ofString "sums" then some (Value.ref D) else m y) := by
    funext y
    split
    · rename_i e; rw [e]; exact hmb
    · split
      · rename_i e; rw [e]; exact hms
      · rfl
  rw [em] at F
  clear em
  iterate 8 (first | (k_unfold; (try dsimp only)) | (k_end; wrow_close) | walk1 | (dsimp only; walk1) | (leave1; walk_say "STEP leave1"; try dsimp only))
  rename News h₀ L _ _ => N3
  rename Fr h₀ L _ _ => F3
  rename IsRange _ _ _ _ _ _ _ _ => hrng
  refine rangeLoop (n := 4) (fun _ => LawSt L b D vs n tups oH) rfl hrng (by decide) (by decide) F3 N3 ⟨oW, x, tab1, tab2, tb, rfl, dW, hT1, hT2, rfl, rfl, c1, c2⟩ ?_ ?_
  · clear hst hms hmb c1 c2 hT1 hT2 dW N3 F3
    intro i t m₁ nx h tk own hi hown hJ F N
    obtain ⟨oW, x, tab1, tab2, tb, rfl, dW, hT1, hT2, hmb, hms, c1, c2⟩ := id hJ
    rw [Int.zero_add] at F
    have em : (fun y => if y = PySem.Str.ofString "half" then some (Value.int (i : Int) t) else m₁ y) = (fun y => if y = PySem.Str.ofString "half" then some (Value.int (i : Int) t) else if y = PySem.Str.ofString "bound" then some (Value.int (b : Int) tb) else if y = PySem.Str.ofString "sums" then some (Value.ref D) else m₁ y) := by
      funext y
      split
      · rfl
      · split
        · rename_i e; rw [e]; exact hmb
        · split
          · rename_i e; rw [e]; exact hms
          · rfl
    rw [em] at F
    clear em
    dsimp only
    iterate 7 (first | (k_unfold; (try dsimp only)) | (k_end; wrow_close) | walk1 | (dsimp only; walk1) | (leave1; walk_say "STEP leave1"; try dsimp only))
    dsimp only
    have hP := fac_half ⟨i, hi⟩
    have hP1 : 1 ≤ 4 ^ i ∧ 4 ^ i ≤ 64 := (show ∀ i : Fin 4, 1 ≤ 4 ^ i.val ∧ 4 ^ i.val ≤ 64 by decide) ⟨i, hi⟩
    dsimp only at hP
    rw [show (4 : Int) ^ ((i : Int)).toNat = ((4 ^ i : Nat) : Int) by rw [Int.toNat_natCast]; norm_cast]
    generalize 4 ^ i = P at hP hP1
    iterate 3 (first | (k_unfold; (try dsimp only)) | (k_end; wrow_close) | walk1 | (dsimp only; walk1) | (leave1; walk_say "STEP leave1"; try dsimp only))
    dsimp only
    iterate 10 (first | (k_unfold; (try dsimp only)) | (k_end; wrow_close) | walk1 | (dsimp only; walk1) | (leave1; walk_say "STEP leave1"; try dsimp only))
    iterate 1 (first | (k_unfold; (try dsimp only)) | (k_end; wrow_close) | walk1 | (dsimp only; walk1) | (leave1; walk_say "STEP leave1"; try dsimp only))
    · have hq1 : P - 1 ≤ b := by omega
      have hv2 : vs[P - 1]? = some (vs[P - 1]'(by omega)) := List.getElem?_eq_getElem (by omega)
      obtain ⟨aU, u1, u2, u3, k4, hvU, hinU⟩ := hTr _ _ hv2
      rw [hvU] at hv2
      dsimp only [trip] at hinU
      rw [hP.resolve_right (by omega)] at hinU
      iterate 6 (first | (k_unfold; (try dsimp only)) | (k_end; wrow_close) | walk1 | (dsimp only; walk1) | (leave1; walk_say "STEP leave1"; try dsimp only))
      rename News h₀ L _ _ => N16
      refine kim_list (l := vs) N16 (.tail _ (.tail _ (.head _))) rfl rfl (by omega) (by omega) (x := .ref aU) ?_ ?_
      · rw [show ((P : Int) - 1).toNat = P - 1 by omega]
        exact hv2
      have N17 : News h₀ L _ _ := fun q hq => (List.mem_cons.mp hq).elim (fun e => e ▸ N16 _ (List.mem_append_left _ (.tail _ (.tail _ (.tail _ (List.mem_append_right _ (List.mem_append_right _ hinU))))))) (N16 q)
      iterate 6 (first | (k_unfold; (try dsimp only)) | (k_end; wrow_close) | walk1 | (dsimp only; walk1) | (leave1; walk_say "STEP leave1"; try dsimp only))
      dsimp only
      rw [show (2 : Int) ^ ((i : Int)).toNat = ((2 ^ i : Nat) : Int) by rw [Int.toNat_natCast]; norm_cast]
      iterate 4 (first | (k_unfold; (try dsimp only)) | (k_end; wrow_close) | walk1 | (dsimp only; walk1) | (leave1; walk_say "STEP leave1"; try dsimp only))
      · exact absurd rfl ‹((2 ^ i : Nat) : Int) ≠ _›
      iterate 4 (first | (k_unfold; (try dsimp only)) | (k_end; wrow_close) | walk1 | (dsimp only; walk1) | (leave1; walk_say "STEP leave1"; try dsimp only))
      rename Fr h₀ L _ _ => F20
      rename News h₀ L _ _ => N20
      refine InvEndG.intro (nx := (L + 1, oW) :: (L + 1 + 1, oH) :: (D, listOf vs.toArray n) :: (tab1 ++ (tab2 ++ tups))) F20 N20 ⟨oW, x, tab1, tab2, tb, rfl, dW, hT1, hT2, rfl, rfl, c1, c2⟩ hown (fun q hq => .tail _ (List.mem_append_left _ hq)) (fun q hq => .tail _ (List.mem_append_right _ hq))
    iterate 3 (first | (k_unfold; (try dsimp only)) | (k_end; wrow_close) | walk1 | (dsimp only; walk1) | (leave1; walk_say "STEP leave1"; try dsimp only))
    rename Fr h₀ L _ _ => F20
    rename News h₀ L _ _ => N20
    refine InvEndG.intro (nx := (L + 1, oW) :: (L + 1 + 1, oH) :: (D, listOf vs.toArray n) :: (tab1 ++ (tab2 ++ tups))) F20 N20 ⟨oW, x, tab1, tab2, tb, rfl, dW, hT1, hT2, rfl, rfl, c1, c2⟩ hown (fun q hq => (List.mem_append_left _ hq)) (fun q hq => (List.mem_append_right _ hq))
  · intro m₁ nx h tk hJ F N
    exact hQ h tk m₁ nx F N hJ
end Mine
end
section
open PySem PySem.W PySem.Spec PySem.Calls PyProof.Rows
set_option Elab.async false
set_option maxRecDepth 100000
namespace Mine
section
variable {prog : Program} {w : World} {A : Around} {E : Value → Shared → Prop} {s : Shared} {env : Env} {h₀ : Heap} {body : List Stmt} {Q : Flow → Shared → Prop}
/-- a loop over a range by ones with any name for its target, by a word of the turn's number, the frame and the ledger -/
theorem rangeTurns {x : Str} {px : Pos} {r : Addr} {a₀ b₀ : Int} {t₀ u₀ v₀ : Tok} {n : Nat} {m₀ : Str → Option Value} {news : List (Addr × Obj)} (J : Nat → (Str → Option Value) → List (Addr × Obj) → Prop)
    (hh : A.handled = none) (hr : IsRange s.heap r a₀ b₀ 1 t₀ u₀ v₀) (hsmall : Builtin.Range.small a₀ b₀ 1 = true) (hsz : Builtin.Range.rangeSize a₀ b₀ 1 = (n : Int)) (F : Fr h₀ env.locals s.heap m₀) (N : News h₀ env.locals s.heap news) (hj : J 0 m₀ news)
    (turn : ∀ i t m₁ nx h tk (I : Addr) o, i < n → J i m₁ nx → OwnOff nx [I] → Fr h₀ env.locals h m₁ → News h₀ env.locals h ((I, o) :: nx) →
      wpAny (model prog w) A (assign (.Name x px) env (.int (a₀ + (i : Int)) t)) (fun _ s₂ => wpAny (model prog w) A (execs body env) (UnrPostW h₀ env.locals { s with heap := h, toks := tk } [(I, o)] (fun m' n' => J (i + 1) m' n') Q) E s₂) E { s with heap := h, toks := tk })
    (done : ∀ m₁ nx h tk, J n m₁ nx → Fr h₀ env.locals h m₁ → News h₀ env.locals h nx → Q .next { s with heap := h, toks := tk }) :
    wpAny (model prog w) A (pyIter (.ref r)) (fun it s₂ => TurnsAt prog w A h₀ env (.Name x px) body Q E it s₂) E s := by
  refine wpAny_pyIter_range hr hsmall ?_
  have all : ∀ (I : Addr) r i m nx, i + r = n → J i m nx → OwnOff nx [I] → ItemsRest prog w A E h₀ env (.Name x px) body Q s [(I, "range_iterator")] [] ((List.range' i r).map fun j => Itm.tok fun t => .int (a₀ + ((j : Nat) : Int)) t) m nx := by
    intro I r
    induction r with
    | zero =>
      intro i m nx e hJ ho h tk F' N'
      have : i = n := by omega
      subst this
      exact done m nx h tk hJ F' N'
    | succ r ih =>
      intro i m nx e hJ ho
      refine ItemsRest.tok (f := fun t => .int (a₀ + (i : Int)) t) fun t h tk F' => AllObj.cons fun o _ => AllObj.nil fun N' => ?_
      refine wpAny_mono (turn i t m nx h tk I o (by omega) hJ ho F' N') (fun _ s₂ h₂ => wpAny_mono h₂ (fun f s₃ p => ?_) fun _ _ e => e) fun _ _ e => e
      have fin : ∀ s₃, UnrEndW h₀ env.locals { s with heap := h, toks := tk } [(I, o)] (fun m' n' => J (i + 1) m' n') s₃ → UnrEndW h₀ env.locals { s with heap := h, toks := tk } [(I, o)] (fun m' n' => SubL [] n' ∧ ItemsRest prog w A E h₀ env (.Name x px) body Q s [(I, "range_iterator")] [] ((List.range' (i + 1) r).map fun j => Itm.tok fun t => .int (a₀ + ((j : Nat) : Int)) t) m' n') s₃ := by
        rintro s₃ ⟨h', tk', m', n', e', F₂, N₂, ho₂, hJ₂⟩
        refine ⟨h', tk', m', n', e', F₂, N₂, ho₂, trivial, ih (i + 1) m' n' (by omega) hJ₂ fun p hp b hb => ?_⟩
        rw [List.mem_singleton.mp hb]
        exact ho₂ p hp (I, o) (.head _)
      cases f with
      | ret v => exact p
      | brk => exact p
      | next => exact fin _ p
      | cont => exact fin _ p
  refine ktu_core (tk0 := s.toks) (keep := []) (xs := (List.range' 0 n).map fun j => Itm.tok fun t => .int (a₀ + ((j : Nat) : Int)) t) (ws := [(s.heap.objs.size, "range_iterator")]) (s := s)
    (KTurns.ofWalks (Walks.range (prog := prog) (w := w) hh s.heap.objs.size a₀ 1 n).bound fun i v s Q E st q => by unfold letOwnedTupleGo; exact wpAny_pure q) (by simp) ?_ ?_ ?_ ?_ ?_ ?_ ?_ ?_ (F.push _) (fun p hp => ⟨Heap.get?_push_of_some _ (N p hp).1, (N p hp).2⟩) trivial
    (all s.heap.objs.size n 0 m₀ news (by omega) hj fun p hp b hb => by rw [List.mem_singleton.mp hb]; exact Nat.ne_of_lt (Heap.lt_size (N p hp).1))
  · rintro i v h ⟨hi, t, rfl⟩
    refine ⟨Itm.tok fun t => .int (a₀ + ((i : Nat) : Int)) t, by simp [hi], t, ?_⟩
    rw [Int.mul_one]
  · intro i h st
    exact ⟨[(s.heap.objs.size, _)], ⟨⟨rfl, rfl⟩, trivial⟩, fun p hp => by rw [List.mem_singleton.mp hp]; exact st⟩
  · intro b hb
    have hb' : b = s.heap.objs.size := by simpa using hb
    rw [hb']
    exact ⟨List.mem_cons_self .., next_is_new F⟩
  · intro b hb
    simpa using hb
  · intro b hb
    exact .inl (by simpa using hb)
  · intro hI
    have hI' : env.locals = s.heap.objs.size := by simpa using hI
    exact absurd F.ns.lt (hI' ▸ Nat.lt_irrefl _)
  · intro p hp hI
    have hI' : p.1 = s.heap.objs.size := by simpa using hI
    exact absurd (Heap.lt_size (N p hp).1) (hI' ▸ Nat.lt_irrefl _)
  · show IsRangeIter _ _ _ _ _
    rw [hsz]
    simpa using Heap.get?_push_size _ rfl
end
end Mine
end
section
open PySem PySem.W PySem.Spec PySem.Calls PyProof.Rows
set_option Elab.async false
set_option maxRecDepth 100000
namespace Mine
theorem cntW_succ (n : Nat) (x : Int) : cntW (n + 1) x = cntW n x + (if sA (n + 1) = x then 1 else 0) := by
  unfold cntW
  rw [List.range_succ, List.filter_append, List.length_append]
  congr 1
  by_cases h : sA (n + 1) = x
  · simp [h]
  · simp [h]
theorem cntW_le (n : Nat) (x : Int) : cntW n x ≤ n := by
  unfold cntW
  exact Nat.le_trans (List.length_filter_le ..) (by rw [List.length_range]; exact Nat.le_refl _)
set_option maxHeartbeats 4000000 in
theorem forWorth {w : World} {p : Program} {loose : List Str} {mean : ExcName → Option Value} {mg mb : Str → Option Value}
    {dp un : Nat} {gd : Option (List Code)} {a : Addr} {ccd : Value} {outer : List Env} {A₀ : Around} {base h₀ : Heap} {L : Addr} {m : Str → Option Value} {s : Shared} {Q : Flow → Shared → Prop} {E : Value → Shared → Prop}
    {b : Nat} {D : Addr} {vs : List Value} {n : Nat} {tups nx : List (Addr × Obj)} {oH : Obj} {xh : Option Value}
    (B : Below A₀ base outer h₀) (F : Fr h₀ L s.heap m) (KX : (Mine.hd.heap_39 w.params).In h₀) (T : Top p loose mean mg mb h₀)
    (N : News h₀ L s.heap nx) (hst : LawSt L b D vs n tups oH m nx) (dH : oH.data = Data.cell xh) (hTr : Trips tups vs) (hlen : vs.length = b + 1) (hb : b ≤ 31) (ho : OwnOff tups [L + 1 + 1]) (hDL : @Ne Nat D (L + 1 + 1))
    (hd : dp + 60 < recursionLimit) (hu : un + 600 < cLine)
    (hE : PassesOwn (model prg w) (ktrTop dp un gd (PySem.Str.ofString "law") (scopeOf lawS) L a ccd [(PySem.Str.ofString "worth", L + 1 + 1), (PySem.Str.ofString "whole", L + 1)] outer) (envX (PySem.Str.ofString "law") (scopeOf lawS) L a ccd [(PySem.Str.ofString "worth", L + 1 + 1), (PySem.Str.ofString "whole", L + 1)]) E)
    (hQ : ∀ h' tk' m' nx' oH' xh', Fr h₀ L h' m' → News h₀ L h' nx' → LawSt L b D vs n tups oH' m' nx' → oH'.data = Data.cell xh' → Q .next { s with heap := h', toks := tk' }) :
    wpAny (model prg w) (ktrTop dp un gd (PySem.Str.ofString "law") (scopeOf lawS) L a ccd [(PySem.Str.ofString "worth", L + 1 + 1), (PySem.Str.ofString "whole", L + 1)] outer) (exec (nthS (bodyOf lawS) 4) (envX (PySem.Str.ofString "law") (scopeOf lawS) L a ccd [(PySem.Str.ofString "worth", L + 1 + 1), (PySem.Str.ofString "whole", L + 1)])) Q E s := by
  w_on
  generalize hsc : scopeOf lawS = sc at hE ⊢
  generalize hfs : nthS (bodyOf lawS) 4 = fs
  conv at hsc => lhs; whnf
  conv at hfs => lhs; whnf
  subst hsc hfs
  obtain ⟨oW, x, tab1, tab2, tb, rfl, dW, hT1, hT2, hmb, hms, c1, c2⟩ := hst
  have em : m = (fun y => if y = PySem.Str.ofString "bound" then some (Value.int (b : Int) tb) else if y = PySem.Str.ofString "sums" then some (Value.ref D) else m y) := by
    funext y
    split
    · rename_i e; rw [e]; exact hmb
    · split
      · rename_i e; rw [e]; exact hms
      · rfl
  rw [em] at F
  clear em
  refine For_turns (hE := hE) F ?_
  iterate 9 (first | (k_unfold; (try dsimp only)) | (k_end; wrow_close) | walk1 | (dsimp only; walk1) | (leave1; walk_say "STEP leave1"; try dsimp only))
  rename Fr h₀ L _ _ => F3
  rename News h₀ L _ _ => N3
  rename IsRange _ _ _ _ _ _ _ _ => hrng
  refine' rangeTurns (n := 4) (fun _ m nx => ∃ oH' xh', nx = (L + 1, oW) :: (L + 1 + 1, oH') :: (D, listOf vs.toArray n) :: (tab1 ++ (tab2 ++ tups)) ∧ oH'.data = Data.cell xh' ∧ m (PySem.Str.ofString "bound") = some (.int (b : Int) tb) ∧ m (PySem.Str.ofString "sums") = some (.ref D)) rfl hrng (by decide) (by decide) F3 N3 ⟨oH, xh, rfl, dH, rfl, rfl⟩ ?_ ?_
  · have hoL : OwnOff (tab1 ++ (tab2 ++ tups)) [L + 1 + 1] := oo_app (oo_hd1 (oo_tail c1)) (oo_app (oo_hd1 (oo_tail c2)) ho)
    clear hmb hms N3 F3
    intro i t m₁ nx h tk I o hi hJ hoI F N
    obtain ⟨oH', xh', rfl, dH', hmb, hms⟩ := hJ
    replace F : Fr h₀ L h _ := F
    replace N : News h₀ L h _ := N
    have em : m₁ = (fun y => if y = PySem.Str.ofString "bound" then some (Value.int (b : Int) tb) else if y = PySem.Str.ofString "sums" then some (Value.ref D) else m₁ y) := by
      funext y
      split
      · rename_i e; rw [e]; exact hmb
      · split
        · rename_i e; rw [e]; exact hms
        · rfl
    rw [em] at F
    clear em
    have hIL : @Ne Nat I (L + 1 + 1) := neN (Ne.symm (hoI _ (.tail _ (.head _)) _ (.head _)))
    have hLL : @Ne Nat (L + 1) (L + 1 + 1) := neN (by omega)
    generalize hR : tab1 ++ (tab2 ++ tups) = R at N hoL
    iterate 2 (first | (k_unfold; (try dsimp only)) | (k_end; wrow_close) | walk1 | (dsimp only; walk1) | (leave1; walk_say "STEP leave1"; try dsimp only))
    rename Obj => o'1
    rename o'1.data = _ => d1
    subst hR
    have fin : ∀ (h' : Heap) (tk' : Nat) (m' : Str → Option Value), m' (PySem.Str.ofString "bound") = some (.int (b : Int) tb) → m' (PySem.Str.ofString "sums") = some (.ref D) → Fr h₀ L h' m' →
        News h₀ L h' ((I, o) :: (L + 1, oW) :: (L + 1 + 1, o'1) :: (D, listOf vs.toArray n) :: (tab1 ++ (tab2 ++ tups))) →
        UnrEndW h₀ L { s with heap := h, toks := tk } [(I, o)] (fun m nx => ∃ oH' xh', nx = (L + 1, oW) :: (L + 1 + 1, oH') :: (D, listOf vs.toArray n) :: (tab1 ++ (tab2 ++ tups)) ∧ oH'.data = Data.cell xh' ∧ m (PySem.Str.ofString "bound") = some (.int (b : Int) tb) ∧ m (PySem.Str.ofString "sums") = some (.ref D)) { s with heap := h', toks := tk' } := by
      intro h' tk' m' e1 e2 F' N'
      refine ⟨h', tk', m', (L + 1, oW) :: (L + 1 + 1, o'1) :: (D, listOf vs.toArray n) :: (tab1 ++ (tab2 ++ tups)), rfl, F', N', ?_, o'1, _, rfl, d1, e1, e2⟩
      intro q hq p hp
      rw [List.mem_singleton.mp hp]
      have hoI' : OwnOff ((L + 1, oW) :: (L + 1 + 1, o'1) :: (D, listOf vs.toArray n) :: (tab1 ++ (tab2 ++ tups))) [I] := by
        exact oo_cons (fun x hx => oo_head hoI x hx) (oo_cons (fun x hx => oo_head (oo_tail hoI) x hx) (oo_tail (oo_tail hoI)))
      exact hoI' q hq _ (.head _)
    iterate 17 (first | (k_unfold; (try dsimp only)) | (k_end; wrow_close) | walk1 | (dsimp only; walk1) | (leave1; walk_say "STEP leave1"; try dsimp only))
    · dsimp only
      iterate 5 (first | (k_unfold; (try dsimp only)) | (k_end; wrow_close) | walk1 | (dsimp only; walk1) | (leave1; walk_say "STEP leave1"; try dsimp only))
      rename Fr h₀ L _ _ => F7
      rename News h₀ L _ _ => N7
      refine LCt.ListComp_T F7 (by with_unfolding_all rfl) (by decide) rfl (by decide) rfl ?_
      iterate 1 (first | (k_unfold; (try dsimp only)) | (k_end; wrow_close) | walk1 | (dsimp only; walk1) | (leave1; walk_say "STEP leave1"; try dsimp only))
      refine LCt.CompSrcT.ledger rfl F7 N7 (.tail _ (.tail _ (.tail _ (.head _)))) (by rw [List.size_toArray, hlen, sizeLine_eq]; omega) ?_
      intro g9
      dsimp only
      refine compT_ind (fun j ys => ys.length = cntW j (1 + (i : Int))) _ rfl ?_ ?_
      · intro ys hys D2 h6 tk6 F6 N6 o6
        dsimp only
        rw [List.size_toArray, hlen] at hys
        have hcl := cntW_le (b + 1) (1 + (i : Int))
        have hc5 := fac_cnt ⟨b, by omega⟩ ⟨1 + i, by omega⟩ (by dsimp only; omega)
        dsimp only at hc5
        replace hc5 := hc5 (by
          have h4 : i = 0 ∨ i = 1 ∨ i = 2 ∨ i = 3 := by omega
          rcases h4 with rfl | rfl | rfl | rfl <;> omega)
        rw [show ((1 + i : Nat) : Int) = 1 + (i : Int) by omega] at hc5
        iterate 1 (first | (k_unfold; (try dsimp only)) | (k_end; wrow_close) | walk1 | (dsimp only; walk1) | (leave1; walk_say "STEP leave1"; try dsimp only))
        refine len_list (News.isList N6 (.head _)) (by rw [List.size_toArray, hys]; omega) ?_
        rw [List.size_toArray, hys]
        iterate 9 (first | (k_unfold; (try dsimp only)) | (k_end; wrow_close) | walk1 | (dsimp only; walk1) | (leave1; walk_say "STEP leave1"; try dsimp only))
        rename Fr h₀ L _ _ => F20
        rename News h₀ L _ _ => N20
        exact fin _ _ _ rfl rfl F20 fun q hq => N20 q (.tail _ hq)
      · intro j ys hj hys v I' oI' Cc oC Dd m2 h9 tk9 E9 hP hNs hm2 F9 N9 off9 ne9
        have hv : vs[j]? = some v := by simpa using hP
        obtain ⟨aT, t1, t2, t3, k3, rfl, hin⟩ := hTr j v hv
        have hS : LCg.SrcAt h₀ D vs.toArray ((I, o) :: (L + 1, oW) :: (L + 1 + 1, o'1) :: (D, listOf vs.toArray n) :: (tab1 ++ (tab2 ++ tups))) := .inr ⟨_, .tail _ (.tail _ (.tail _ (.head _))), rfl, _, rfl⟩
        have hinR : (aT, tupO (trip j t1 t2 t3) k3) ∈ tab1 ++ (tab2 ++ tups) := List.mem_append_right _ (List.mem_append_right _ hin)
        have N10 : News h₀ L h9 _ := fun q hq => (List.mem_cons.mp hq).elim (fun e => e ▸ N9 _ (.tail _ (.tail _ (.tail _ (.tail _ (.tail _ (.tail _ (.tail _ hinR)))))))) (N9 q)
        iterate 9 (first | (k_unfold; (try dsimp only)) | (k_end; wrow_close) | walk1 | (dsimp only; walk1) | (leave1; walk_say "STEP leave1"; try dsimp only))
        · rename_i hc
          iterate 1 (first | (k_unfold; (try dsimp only)) | (k_end; wrow_close) | walk1 | (dsimp only; walk1) | (leave1; walk_say "STEP leave1"; try dsimp only))
          refine LCg.CompEnd.intro F9 N9 _ (fun _ h => h) off9 hS ⟨rfl, ?_⟩
          rw [List.length_append, List.length_singleton, hys, cntW_succ, if_pos hc]
        · rename_i hc
          dsimp only
          refine LCg.CompEnd.intro F9 N9 _ (fun _ h => h) off9 hS ⟨rfl, ?_⟩
          rw [hys, cntW_succ, if_neg hc, Nat.add_zero]
    dsimp only
    iterate 4 (first | (k_unfold; (try dsimp only)) | (k_end; wrow_close) | walk1 | (dsimp only; walk1) | (leave1; walk_say "STEP leave1"; try dsimp only))
    rename Fr h₀ L _ _ => F20
    rename News h₀ L _ _ => N20
    exact fin _ _ _ rfl rfl F20 N20
  · intro m₁ nx h tk hJ F N
    obtain ⟨oH', xh', rfl, dH', hmb, hms⟩ := hJ
    exact hQ h tk m₁ _ oH' xh' F N ⟨oW, x, tab1, tab2, tb, rfl, dW, hT1, hT2, hmb, hms, oo_cons (fun x hx => oo_head c1 x hx) (oo_cons (fun x hx => oo_head (oo_tail c1) x hx) (oo_tail (oo_tail c1))), oo_cons (fun x hx => oo_head c2 x hx) (oo_cons (fun x hx => oo_head (oo_tail c2) x hx) (oo_tail (oo_tail c2)))⟩ dH'
end Mine
end
section
open PySem PySem.W PySem.Spec PySem.Calls PyProof.Rows
set_option Elab.async false
set_option maxRecDepth 100000
namespace Mine
open LCg LCt
section
variable {prog : Program} {w : World} {A : Around} {E : Value → Shared → Prop} {s : Shared} {h₀ : Heap} {L : Addr} {m : Str → Option Value} {env : Env}
/-- what a list comprehension over a range asks whose own name stands in a cell and whose test is never met -/
def CellSrc (prog : Program) (w : World) (A : Around) (h₀ : Heap) (L : Addr) (m : Str → Option Value) (env : Env) (ct : Expr) (x : Str) (scope : Scope) (cl : List (Str × Addr)) (a b : Int) (n : Nat) (Q : Value → Shared → Prop) (xv : Value) (s₁ : Shared) : Prop :=
  ∃ r t u v news, xv = .ref r ∧ Fr h₀ L s₁.heap m ∧ News h₀ L s₁.heap news ∧ IsRange s₁.heap r a b 1 t u v ∧
    (∀ i t I oI C oC D K oK h tk (E' : Value → Shared → Prop), i < n → oK.data = Data.cell (some (.int (a + ((i : Nat) : Int)) t)) → Fr h₀ L h m → News h₀ L h ((I, oI) :: (C, oC) :: (D, lst []) :: (K, oK) :: news) → OwnOff news [I, C, D, K] →
      @Ne Nat I C → @Ne Nat I D → @Ne Nat I K → @Ne Nat C D → @Ne Nat C K → @Ne Nat D K →
      wpAny (model prog w) A (isTrue ct (compEnvC scope ((x, K) :: cl) C env) (eval ct (compEnvC scope ((x, K) :: cl) C env))) (fun ok s' => ok = false ∧ ∃ h' tk', s' = { s₁ with heap := h', toks := tk' } ∧ Fr h₀ L h' m ∧ News h₀ L h' ((I, oI) :: (C, oC) :: (D, lst []) :: (K, oK) :: news)) E' { s₁ with heap := h, toks := tk }) ∧
    (∀ D h tk, Fr h₀ L h m → News h₀ L h ((D, lst []) :: news) → OwnOff news [D] → Q (.ref D) { s₁ with heap := h, toks := tk })
theorem compCell {ct elt iter : Expr} {x : Str} {px : Pos} {scope : Scope} {cl : List (Str × Addr)} {pos : Pos} {a b : Int} {n : Nat} {Q : Value → Shared → Prop}
    (hh : A.handled = none) (hclos : closureFor scope env = pure cl) (hkind : scope.kind = .function) (hnames : ∀ z ∈ scope.names, z.2 = .local → scope.names.lookup z.1 = some .local)
    (hcells : ∀ k, cellsFrom k scope.names cl = (x, k) :: cl) (hpush : ∀ h, pushCells h scope.names = h.push { cls := .type "cell", data := .cell none })
    (hx : (relabel scope env).names.lookup x = some .cell) (hsm : Builtin.Range.small a b 1 = true) (hn : Builtin.Range.rangeSize a b 1 = (n : Int))
    (h : wpAny (model prog w) A (eval iter env) (CellSrc prog w A h₀ L m env ct x scope cl a b n Q) E s)
    (hs : ∀ x, foldedSetIterable iter env x = pure x := by intro _; rfl) :
    wpAny (model prog w) A (eval (.ListComp elt [⟨.Name x px, iter, [ct], 0⟩] scope pos) env) Q E s := by
  rw [eval_ListComp]
  refine wpAny_comprehension_free (use := none) rfl hs hclos hkind hnames (wpAny_mono h (fun xv s₁ h₁ => ?_) fun _ _ e => e)
  obtain ⟨r, t, u, v, news, rfl, F, N, hr, turn, fin⟩ := h₁
  refine wpAny_pyIter_range hr hsm ?_
  refine wpAny_newObj_type ?_
  simp only [newFunctionEnv, Option.isSome_some, if_true]
  refine wpAny_bind (wpAny_alloc ?_)
  refine wpAny_bind (wpAny_layCells _ (fun name kind cells => by cases kind == NameKind.cell <;> simp) _ _ _ _ ?_)
  rw [hcells, hpush]
  rw [List.forIn_nil]
  refine wpAny_bind (wpAny_pure (wpAny_pure ?_))
  dsimp only
  generalize hH1 : s₁.heap.push { cls := .type "range_iterator", data := .fields #[rawInt a, rawInt (Builtin.Range.rangeSize a b 1), rawInt 1] } = H1
  generalize hH2 : H1.push { cls := .type "list", data := .seq #[] } = H2
  generalize hH3 : H2.push { cls := .type "dict", data := .dict #[] } = H3
  generalize hH4 : H3.push { cls := .type "cell", data := .cell none } = H4
  have z1 : H1.objs.size = s₁.heap.objs.size + 1 := by rw [← hH1, Heap.size_push]
  have z2 : H2.objs.size = s₁.heap.objs.size + 1 + 1 := by rw [← hH2, Heap.size_push, z1]
  have z3 : H3.objs.size = s₁.heap.objs.size + 1 + 1 + 1 := by rw [← hH3, Heap.size_push, z2]
  have g1 : ∀ c o, s₁.heap.get? c = some o → H1.get? c = some o := fun c o e => hH1 ▸ Heap.get?_push_of_some _ e
  have g2 : ∀ c o, H1.get? c = some o → H2.get? c = some o := fun c o e => hH2 ▸ Heap.get?_push_of_some _ e
  have g3 : ∀ c o, H2.get? c = some o → H3.get? c = some o := fun c o e => hH3 ▸ Heap.get?_push_of_some _ e
  have g4 : ∀ c o, H3.get? c = some o → H4.get? c = some o := fun c o e => hH4 ▸ Heap.get?_push_of_some _ e
  have old : ∀ c o, s₁.heap.get? c = some o → H4.get? c = some o := fun c o e => g4 _ _ (g3 _ _ (g2 _ _ (g1 _ _ e)))
  have gI : H4.get? s₁.heap.objs.size = some { cls := .type "range_iterator", data := .fields #[rawInt a, rawInt (Builtin.Range.rangeSize a b 1), rawInt 1] } := g4 _ _ (g3 _ _ (g2 _ _ (hH1 ▸ Heap.get?_push_size _ rfl)))
  have gD : H4.get? H1.objs.size = some (lst []) := g4 _ _ (g3 _ _ (hH2 ▸ Heap.get?_push_size _ rfl))
  have gC : H4.Ns H2.objs.size (fun _ => none) := (hH3 ▸ Heap.Ns.new H2 (.type "dict") : H3.Ns H2.objs.size (fun _ => none)).keeps g4
  have gK : H4.get? H3.objs.size = some { cls := .type "cell", data := .cell none } := hH4 ▸ Heap.get?_push_size _ rfl
  have fresh₀ : ∀ c, s₁.heap.objs.size ≤ c → h₀.get? c = none := fun c hc => by
    cases e : h₀.get? c with
    | none => rfl
    | some o' => exact absurd (Heap.lt_size (F.keep c o' e)) (Nat.not_lt.mpr hc)
  have hLlt : @LT.lt Nat _ L s₁.heap.objs.size := F.ns.lt
  have hN : ∀ p ∈ news, @LT.lt Nat _ p.1 s₁.heap.objs.size := fun p hp => Heap.lt_size (N p hp).1
  clear hH1 hH2 hH3 hH4 g1 g2 g3 g4
  generalize H1.objs.size = D at z1 gD ⊢
  generalize H2.objs.size = C at z2 gC ⊢
  generalize H3.objs.size = K at z3 gK ⊢
  generalize hI : s₁.heap.objs.size = I at z1 z2 z3 gI fresh₀ hLlt hN ⊢
  have hIC : @Ne Nat I C := neN (by omega)
  have hID : @Ne Nat I D := neN (by omega)
  have hIK : @Ne Nat I K := neN (by omega)
  have hCD : @Ne Nat C D := neN (by omega)
  have hCK : @Ne Nat C K := neN (by omega)
  have hDK : @Ne Nat D K := neN (by omega)
  have hIL : @Ne Nat L I := neN (by omega)
  have hCL : @Ne Nat C L := neN (by omega)
  have hDL : @Ne Nat D L := neN (by omega)
  have hKL : @Ne Nat K L := neN (by omega)
  have hI₀ : h₀.get? I = none := fresh₀ _ (by omega)
  have hC₀ : h₀.get? C = none := fresh₀ _ (by omega)
  have hD₀ : h₀.get? D = none := fresh₀ _ (by omega)
  have hK₀ : h₀.get? K = none := fresh₀ _ (by omega)
  have off : OwnOff news [I, C, D, K] := fun p hp y hy => by
    have hl := hN p hp
    simp only [List.mem_cons, List.not_mem_nil, or_false] at hy
    refine neN ?_
    rcases hy with rfl | rfl | rfl | rfl <;> omega
  clear fresh₀ hN hLlt
  have W := range_walks (prog := prog) (w := w) (I := I) hh a n
  have hst₀ : IsRangeIter H4 I (a + ((0 : Nat) : Int) * 1) ((n : Int) - ((0 : Nat) : Int)) 1 := by
    show H4.get? I = _
    rw [gI, hn]
    simp
  have loop : ∀ s₃ : Shared, s₃ = { s₁ with heap := H4 } →
      codeAny (model prog w) A (.compLoop (.ListComp elt [⟨.Name x px, iter, [ct], 0⟩] scope pos) 0 (.ref I) (.ref D) (compEnvC scope ((x, K) :: cl) C env)) (compPost (model prog w) A E none Q (.ref D) C) s₃ := by
    rintro s₃ rfl
    refine codeAny_compLoop_tests
      (fun k s' => ∃ h' tk i oK v, s' = { s₁ with heap := h', toks := tk } ∧ i ≤ n ∧ k = n + 1 - i ∧ IsRangeIter h' I (a + ((i : Nat) : Int) * 1) ((n : Int) - ((i : Nat) : Int)) 1 ∧ Fr h₀ L h' m ∧ h'.Ns C (fun _ => none) ∧ oK.data = Data.cell v ∧ News h₀ L h' ((D, lst []) :: (K, oK) :: news)) ?_ (n + 1)
      ⟨H4, _, 0, { cls := .type "cell", data := .cell none }, none, rfl, Nat.zero_le _, rfl, hst₀, F.keeps old, gC, rfl, fun p hp => ?_⟩
    · rintro k s' ⟨h', tk, i, oK, v', rfl, hi, rfl, hst', F', hn', dK, N'⟩
      by_cases hlt : i < n
      · refine W.item i _ _ _ hlt hst' fun v h₂ tk₂ hPv hst₂ hk₂ => ?_
        obtain ⟨t', rfl⟩ := hPv
        have F₂ : Fr h₀ L h₂ m := fr_but F' hk₂ hIL hI₀
        have N₂ : News h₀ L h₂ ((D, lst []) :: (K, oK) :: news) := news_but N' hk₂ fun p hp => by
          rcases List.mem_cons.mp hp with rfl | hp
          · exact Ne.symm hID
          · rcases List.mem_cons.mp hp with rfl | hp
            · exact Ne.symm hIK
            · exact off p hp _ (.head _)
        have hn₂ : h₂.Ns C (fun _ => none) := hn'.at' fun o e => hk₂ _ o (by simpa using Ne.symm hIC) e
        refine wpAny_assign_Name (wpAny_storeName_cell (c := K) (v₀ := v') hkind hx (by simp [compEnvC]) ⟨oK, (N₂ (K, oK) (.tail _ (.head _))).1, dK⟩ fun h₃ hv₃ hs₃ => ?_)
        refine wpAny_tests_one ?_
        obtain ⟨oK', eK, dK'⟩ := hv₃
        have hst₃ : IsRangeIter h₃ I (a + ((i + 1 : Nat) : Int) * 1) ((n : Int) - ((i + 1 : Nat) : Int)) 1 := hs₃.extBut I _ hIK hst₂
        have hn₃ : h₃.Ns C (fun _ => none) := hn₂.sameBut hs₃ hCK
        obtain ⟨oC, heC, hoC⟩ := ns_obj hn₃
        have F₃ : Fr h₀ L h₃ m := F₂.change hs₃ hKL hK₀
        have N₃ : News h₀ L h₃ ((I, _) :: (C, oC) :: (D, lst []) :: (K, oK') :: news) := fun p hp => by
          rcases List.mem_cons.mp hp with rfl | hp
          · exact ⟨hst₃, Ne.symm hIL, hI₀⟩
          · rcases List.mem_cons.mp hp with rfl | hp
            · exact ⟨heC, hCL, hC₀⟩
            · rcases List.mem_cons.mp hp with rfl | hp
              · have z := N₂ (D, lst []) (.head _)
                exact ⟨hs₃.extBut _ _ hDK z.1, z.2⟩
              · rcases List.mem_cons.mp hp with rfl | hp
                · exact ⟨eK, hKL, hK₀⟩
                · have z := N₂ p (.tail _ (.tail _ hp))
                  exact ⟨hs₃.extBut _ _ (off p hp _ (.tail _ (.tail _ (.tail _ (.head _))))) z.1, z.2⟩
        refine wpAny_mono (turn i t' I _ C oC D K oK' h₃ _ _ hlt dK' F₃ N₃ off hIC hID hIK hCD hCK hDK) (fun ok s₄ h₄ => ?_) fun _ _ e => e
        obtain ⟨rfl, h₄, tk₄, rfl, F₄, N₄⟩ := h₄
        simp only [Bool.false_eq_true, if_false]
        refine ⟨n + 1 - (i + 1), by omega, h₄, tk₄, i + 1, oK', _, rfl, hlt, rfl, (N₄ (I, _) (.head _)).1, F₄, hoC.ns (N₄ (C, oC) (.tail _ (.head _))).1, dK', fun p hp => N₄ p (.tail _ (.tail _ hp))⟩
      · obtain rfl : i = n := Nat.le_antisymm hi (Nat.not_lt.mp hlt)
        refine W.done _ _ _ hst' fun h₂ tk₂ hk₂ => ?_
        have F₂ : Fr h₀ L h₂ m := fr_but F' hk₂ hIL hI₀
        have N₂ : News h₀ L h₂ ((D, lst []) :: news) := news_but (fun p hp => N' p (by
          rcases List.mem_cons.mp hp with rfl | hp
          · exact .head _
          · exact .tail _ (.tail _ hp))) hk₂ fun p hp => by
          rcases List.mem_cons.mp hp with rfl | hp
          · exact Ne.symm hID
          · exact off p hp _ (.head _)
        have hn₂ : h₂.Ns C (fun _ => none) := hn'.at' fun o e => hk₂ _ o (by simpa using Ne.symm hIC) e
        refine ⟨_, hn₂, fun h'' hs'' => fin D h'' tk₂ (F₂.change hs'' hCL hC₀) (fun p hp => ?_) fun p hp y hy => by
          rw [List.mem_singleton.mp hy]
          exact off p hp _ (.tail _ (.tail _ (.head _)))⟩
        refine ⟨hs''.extBut _ _ ?_ (N₂ p hp).1, (N₂ p hp).2⟩
        rcases List.mem_cons.mp hp with rfl | hp
        · exact Ne.symm hCD
        · exact off p hp _ (.tail _ (.head _))
    · rcases List.mem_cons.mp hp with rfl | hp
      · exact ⟨gD, hDL, hD₀⟩
      · rcases List.mem_cons.mp hp with rfl | hp
        · exact ⟨gK, hKL, hK₀⟩
        · exact ⟨old _ _ (N p hp).1, (N p hp).2⟩
  exact codeAny_compStart_list (loop _ rfl) (W.self 0 _ _ _ hst₀ (loop _ rfl))
end
end Mine
end
section
open PySem PySem.W PySem.Spec PySem.Calls PyProof.Rows
set_option Elab.async false
set_option maxRecDepth 100000
namespace Mine
theorem TabSt.tab {P : Addr} {pos : Pos} {qual : Str} {tab : List (Addr × Obj)} (h : TabSt P pos qual tab) : ∃ ps, (P, tabObj ps) ∈ tab := by
  rcases h with rfl | ⟨c', oc, vs, t, rfl, _⟩
  · exact ⟨_, .head _⟩
  · exact ⟨_, .tail _ (.head _)⟩
set_option maxHeartbeats 8000000 in
theorem lawBody {w : World} {p : Program} {loose : List Str} {mean : ExcName → Option Value} {mg mb : Str → Option Value}
    {dp un : Nat} {gd : Option (List Code)} {a : Addr} {ccd : Value} {outer : List Env} {A₀ : Around} {base h₀ : Heap} {L : Addr} {m : Str → Option Value} {s : Shared} {Q : Flow → Shared → Prop} {E : Value → Shared → Prop}
    {b : Nat} {tb : Tok} {oW oH : Obj}
    (B : Below A₀ base outer h₀) (F : Fr h₀ L s.heap m) (KX : (Mine.hd.heap_39 w.params).In h₀) (T : Top p loose mean mg mb h₀)
    (C1 : CodeHd h₀ 20 16) (C2 : CodeHd h₀ 27 23) (N : News h₀ L s.heap [(L + 1 + 1, oH), (L + 1, oW), (23, tabObj #[]), (16, tabObj #[])]) (dW : oW.data = Data.cell none) (dH : oH.data = Data.cell none)
    (hmb : m (PySem.Str.ofString "bound") = some (.int (b : Int) tb)) (hb : b ≤ 31) (l16 : @LT.lt Nat _ 16 L) (l23 : @LT.lt Nat _ 23 L)
    (hd : dp + 80 < recursionLimit) (hu : un + 800 < cLine)
    (hE : PassesOwn (model prg w) (ktrTop dp un gd (PySem.Str.ofString "law") (scopeOf lawS) L a ccd [(PySem.Str.ofString "worth", L + 1 + 1), (PySem.Str.ofString "whole", L + 1)] outer) (envX (PySem.Str.ofString "law") (scopeOf lawS) L a ccd [(PySem.Str.ofString "worth", L + 1 + 1), (PySem.Str.ofString "whole", L + 1)]) E)
    (hQ : ∀ h' tk' m', Fr h₀ L h' m' → GrownAt 16 h' → GrownAt 23 h' → Q (.ret (.bool true)) { s with heap := h', toks := tk' }) :
    wpAny (model prg w) (ktrTop dp un gd (PySem.Str.ofString "law") (scopeOf lawS) L a ccd [(PySem.Str.ofString "worth", L + 1 + 1), (PySem.Str.ofString "whole", L + 1)] outer) (execs ((bodyOf lawS).drop 1) (envX (PySem.Str.ofString "law") (scopeOf lawS) L a ccd [(PySem.Str.ofString "worth", L + 1 + 1), (PySem.Str.ofString "whole", L + 1)])) Q E s := by
  w_on
  have hEE := hE
  generalize hsc : scopeOf lawS = sc at hE ⊢
  generalize hfs : (bodyOf lawS).drop 1 = fs
  conv at hsc => lhs; whnf
  conv at hfs => lhs; whnf
  subst hsc hfs
  have em : m = (fun y => if y = PySem.Str.ofString "bound" then some (Value.int (b : Int) tb) else m y) := by
    funext y
    split
    · rename_i e; rw [e]; exact hmb
    · rfl
  rw [em] at F
  clear em
  iterate 9 (first | (k_unfold; (try dsimp only)) | (k_end; wrow_close) | walk1 | (dsimp only; walk1) | (leave1; walk_say "STEP leave1"; try dsimp only))
  refine lawSums (tab := [(16, tabObj #[])]) (rest := [(L + 1 + 1, oH), (L + 1, oW), (23, tabObj #[])]) B F KX T rfl C1 (.inl rfl) (fun q hq => N q (by
    simp only [List.mem_cons, List.mem_append, List.not_mem_nil, or_false] at hq ⊢
    grind)) ?_ hb (by omega) (by omega) ?_
  · intro q hq x hx
    simp only [List.map_cons, List.map_nil, List.mem_cons, List.not_mem_nil, or_false] at hx hq
    subst hx
    refine neN ?_
    rcases hq with rfl | rfl | rfl <;> dsimp only <;> omega
  intro h1 tk1 tab1 tups D vs n F1 N1 hT1 hTr hlen o1 o2 o3
  iterate 3 (first | (k_unfold; (try dsimp only)) | (k_end; wrow_close) | walk1 | (dsimp only; walk1) | (leave1; walk_say "STEP leave1"; try dsimp only))
  have hsums : LawSt L b D vs n tups oH (fun y => if y = PySem.Str.ofString "sums" then some (Value.ref D) else if y = PySem.Str.ofString "bound" then some (Value.int (b : Int) tb) else m y) ((L + 1, oW) :: (L + 1 + 1, oH) :: (D, listOf vs.toArray n) :: (tab1 ++ ([(23, tabObj #[])] ++ tups))) := by
    have x1 := oo_head (oo_tail (oo_right (oo_tail o1)))
    have x2 := oo_head (oo_right (oo_tail o1))
    have x3 := oo_tail (oo_tail (oo_right (oo_tail o1)))
    refine ⟨oW, none, tab1, [(23, tabObj #[])], tb, rfl, dW, hT1, .inl rfl, rfl, rfl, ?_, ?_⟩
    · exact oo_cons x1 (oo_cons x2 (oo_cons (oo_head o1) (oo_app x3 (oo_left (oo_tail o1)))))
    · intro q hq y hy
      simp only [List.map_cons, List.map_nil, List.mem_cons, List.not_mem_nil, or_false] at hy
      subst hy
      rcases List.mem_cons.mp hq with rfl | hq
      · refine neN ?_; dsimp only; omega
      rcases List.mem_cons.mp hq with rfl | hq
      · refine neN ?_; dsimp only; omega
      rcases List.mem_cons.mp hq with rfl | hq
      · exact Ne.symm (o2 (23, tabObj #[]) (List.mem_append_right _ (.tail _ (.tail _ (.head _)))) _ (.head _))
      · exact o3 q hq _ (.tail _ (.tail _ (.head _)))
  have t1 : OwnOff tups [L + 1] := fun q hq y hy => o3 q hq y (by rw [List.mem_singleton.mp hy]; exact .tail _ (.head _))
  have t2 : OwnOff tups [L + 1 + 1] := fun q hq y hy => o3 q hq y (by rw [List.mem_singleton.mp hy]; exact .head _)
  have d1 : @Ne Nat D (L + 1) := neN (Ne.symm (o2 (L + 1, oW) (List.mem_append_right _ (.tail _ (.head _))) _ (.head _)))
  have d2 : @Ne Nat D (L + 1 + 1) := neN (Ne.symm (o2 (L + 1 + 1, oH) (List.mem_append_right _ (.head _)) _ (.head _)))
  rename Fr h₀ L _ _ => F2
  rename News h₀ L _ _ => N2
  refine forEnum B F2 KX T C1 C2 (fun q hq => N2 q (by
    simp only [List.mem_cons, List.mem_append, List.not_mem_nil, or_false] at hq ⊢
    grind)) hsums hTr hlen hb t1 d1 (by omega) (by omega) hE ?_
  clear hsums N2 F2 o1 o2
  intro h3 tk3 m3 nx3 F3 N3 st3
  dsimp only
  iterate 1 (first | (k_unfold; (try dsimp only)) | (k_end; wrow_close) | walk1 | (dsimp only; walk1) | (leave1; walk_say "STEP leave1"; try dsimp only))
  refine forHalf B F3 KX T N3 st3 hTr hlen hb hE ?_
  clear F3 N3 st3
  intro h4 tk4 m4 nx4 F4 N4 st4
  dsimp only
  iterate 1 (first | (k_unfold; (try dsimp only)) | (k_end; wrow_close) | walk1 | (dsimp only; walk1) | (leave1; walk_say "STEP leave1"; try dsimp only))
  refine forWorth B F4 KX T N4 st4 dH hTr hlen hb t2 d2 (by omega) (by omega) hE ?_
  clear F4 N4 st4
  intro h5 tk5 m5 nx5 oH2 xh F5 N5 st5 dH2
  dsimp only
  iterate 1 (first | (k_unfold; (try dsimp only)) | (k_end; wrow_close) | walk1 | (dsimp only; walk1) | (leave1; walk_say "STEP leave1"; try dsimp only))
  obtain ⟨oW2, x, tab3, tab4, tb2, rfl, dW2, hT3, hT4, hmb2, hms2, c1, c2⟩ := st5
  iterate 8 (first | (k_unfold; (try dsimp only)) | (k_end; wrow_close) | walk1 | (dsimp only; walk1) | (leave1; walk_say "STEP leave1"; try dsimp only))
  rw [show (31 : Int) = ((31 : Nat) : Int) from rfl]
  refine lawSums (b := 31) B F5 KX T rfl C1 hT3 (fun q hq => N5 q (by
    simp only [List.mem_cons, List.mem_append] at hq ⊢
    grind)) c1 (by omega) (by omega) (by omega) ?_
  intro h6 tk6 tab5 tups2 D2 vs2 n2 F6 N6 hT5 hTr2 hlen2 p1 p2 p3
  dsimp only
  have hsub : ∃ R : List (Addr × Obj), News h₀ L h6 ((L + 1, oW2) :: (L + 1 + 1, oH2) :: (D2, listOf vs2.toArray n2) :: R) ∧ OwnOff R [L + 1] ∧ (∀ q ∈ tups2, q ∈ R) ∧ (∃ ps, (16, tabObj ps) ∈ R) ∧ (∃ ps, (23, tabObj ps) ∈ R) := by
    refine ⟨tab5 ++ (tab4 ++ tups2), fun q hq => N6 q ?_, ?_, fun q hq => List.mem_append_right _ (List.mem_append_right _ hq), ?_, ?_⟩
    · simp only [List.mem_cons, List.mem_append] at hq ⊢
      grind
    · refine oo_app (oo_hd1 (oo_right (oo_tail p1))) (oo_app (oo_hd1 c2) ?_)
      intro q hq y hy
      rw [List.mem_singleton.mp hy]
      exact p3 q hq _ (.head _)
    · obtain ⟨ps, hps⟩ := hT5.tab
      exact ⟨ps, List.mem_append_left _ hps⟩
    · obtain ⟨ps, hps⟩ := hT4.tab
      exact ⟨ps, List.mem_append_right _ (List.mem_append_left _ hps)⟩
  have e2 : @Ne Nat D2 (L + 1) := neN (Ne.symm (p2 (L + 1, oW2) (List.mem_append_right _ (.head _)) _ (.head _)))
  clear N5 N6 c1 c2 p1 p2 p3 hT3 hT4 hT5 t1 t2
  obtain ⟨R, N7, oR, hR2, ⟨ps1, hR16⟩, ⟨ps2, hR23⟩⟩ := hsub
  have hLL : @Ne Nat (L + 1 + 1) (L + 1) := neN (by omega)
  iterate 1 (first | (k_unfold; (try dsimp only)) | (k_end; wrow_close) | walk1 | (dsimp only; walk1) | (leave1; walk_say "STEP leave1"; try dsimp only))
  rename Obj => oW3
  rename oW3.data = _ => d3
  iterate 4 (first | (k_unfold; (try dsimp only)) | (k_end; wrow_close) | walk1 | (dsimp only; walk1) | (leave1; walk_say "STEP leave1"; try dsimp only))
  refine compCell (h₀ := h₀) (L := L) (m := m5) (x := PySem.Str.ofString "worth") (a := 1) (b := 4) (n := 3) rfl (by with_unfolding_all rfl) rfl (by decide) (fun k => rfl) (fun h => rfl) rfl (by decide) (by decide) ?_
  iterate 9 (first | (k_unfold; (try dsimp only)) | (k_end; wrow_close) | walk1 | (dsimp only; walk1) | (leave1; walk_say "STEP leave1"; try dsimp only))
  rename Fr h₀ L _ _ => F8
  rename News h₀ L _ _ => N8
  rename IsRange _ _ _ _ _ _ _ _ => hrng
  refine ⟨_, _, _, _, _, rfl, F8, N8, hrng, ?_, ?_⟩
  · intro i t I oI C oC Dd K oK h tk E' hi dK F N off q1 q2 q3 q4 q5 q6
    iterate 5 (first | (k_unfold; (try dsimp only)) | (k_end; wrow_close) | walk1 | (dsimp only; walk1) | (leave1; walk_say "STEP leave1"; try dsimp only))
    refine LCt.ListComp_T F (by with_unfolding_all rfl) (by decide) rfl (by decide) rfl ?_
    iterate 1 (first | (k_unfold; (try dsimp only)) | (k_end; wrow_close) | walk1 | (dsimp only; walk1) | (leave1; walk_say "STEP leave1"; try dsimp only))
    have hmD : (D2, listOf vs2.toArray n2) ∈ (I, oI) :: (C, oC) :: (Dd, LCg.lst []) :: (K, oK) :: (L + 1, oW3) :: (L + 1 + 1, oH2) :: (D2, listOf vs2.toArray n2) :: R := .tail _ (.tail _ (.tail _ (.tail _ (.tail _ (.tail _ (.head _))))))
    refine LCt.CompSrcT.ledger rfl F N hmD (by rw [List.size_toArray, hlen2, sizeLine_eq]; omega) ?_
    intro g9
    dsimp only
    refine compT_ind (fun j ys => ys.length = cntW j (1 + (i : Int))) _ rfl ?_ ?_
    · intro ys hys D3 h6 tk6 F6 N6 o6
      dsimp only
      rw [List.size_toArray, hlen2] at hys
      have hc5 := fac_whole ⟨1 + i, by omega⟩ (by dsimp only; omega)
      dsimp only at hc5
      rw [show ((1 + i : Nat) : Int) = 1 + (i : Int) by omega] at hc5
      rw [hc5] at hys
      iterate 1 (first | (k_unfold; (try dsimp only)) | (k_end; wrow_close) | walk1 | (dsimp only; walk1) | (leave1; walk_say "STEP leave1"; try dsimp only))
      refine len_list (News.isList N6 (.head _)) (by rw [List.size_toArray, hys]; omega) ?_
      rw [List.size_toArray, hys]
      iterate 3 (first | (k_unfold; (try dsimp only)) | (k_end; wrow_close) | walk1 | (dsimp only; walk1) | (leave1; walk_say "STEP leave1"; try dsimp only))
      refine ⟨?_, h6, _, rfl, F6, fun q hq => N6 q (.tail _ hq)⟩
      rw [show ((1 + i : Nat) : Int) = 1 + (i : Int) by omega]
      simp
    · intro j ys hj hys v I' oI' Cc oCc Dy m2 h9 tk9 E9 hP hNs hm2 F9 N9 off9 ne9
      have hv : vs2[j]? = some v := by simpa using hP
      obtain ⟨aT, t1, t2, t3, k3, rfl, hin⟩ := hTr2 j v hv
      have hS : LCg.SrcAt h₀ D2 vs2.toArray ((I, oI) :: (C, oC) :: (Dd, LCg.lst []) :: (K, oK) :: (L + 1, oW3) :: (L + 1 + 1, oH2) :: (D2, listOf vs2.toArray n2) :: R) := .inr ⟨_, hmD, rfl, _, rfl⟩
      have N10 : News h₀ L h9 _ := fun q hq => (List.mem_cons.mp hq).elim (fun e => e ▸ N9 _ (.tail _ (.tail _ (.tail _ (.tail _ (.tail _ (.tail _ (.tail _ (.tail _ (.tail _ (.tail _ (hR2 _ hin)))))))))))) (N9 q)
      iterate 9 (first | (k_unfold; (try dsimp only)) | (k_end; wrow_close) | walk1 | (dsimp only; walk1) | (leave1; walk_say "STEP leave1"; try dsimp only))
      · rename_i hc
        iterate 1 (first | (k_unfold; (try dsimp only)) | (k_end; wrow_close) | walk1 | (dsimp only; walk1) | (leave1; walk_say "STEP leave1"; try dsimp only))
        refine LCg.CompEnd.intro F9 N9 _ (fun _ h => h) off9 hS ⟨rfl, ?_⟩
        rw [List.length_append, List.length_singleton, hys, cntW_succ, if_pos hc]
      · rename_i hc
        dsimp only
        refine LCg.CompEnd.intro F9 N9 _ (fun _ h => h) off9 hS ⟨rfl, ?_⟩
        rw [hys, cntW_succ, if_neg hc, Nat.add_zero]
  · intro Dd h tk F N off
    iterate 4 (first | (k_unfold; (try dsimp only)) | (k_end; wrow_close) | walk1 | (dsimp only; walk1) | (leave1; walk_say "STEP leave1"; try dsimp only))
    rename Fr h₀ L _ _ => F9
    rename News h₀ L _ _ => N9
    exact hQ _ _ _ F9 (GrownAt.of N9 (.tail _ (.tail _ (.tail _ (.tail _ (.tail _ hR16)))))) (GrownAt.of N9 (.tail _ (.tail _ (.tail _ (.tail _ (.tail _ hR23))))))
end Mine
end
section
open PySem PySem.W PySem.Spec PySem.Calls PyProof.Rows
set_option Elab.async false
set_option maxRecDepth 100000
namespace Mine
set_option maxHeartbeats 8000000 in
theorem lawT : PySem.Challenge.rw_hi0001_01.Holds := Mine.hd (by
  w_strict (
    k_go0
    show PySem.wpAny _ _ _ _ _ _
    iterate 16 (first | (k_unfold; (try dsimp only)) | (k_end; wrow_close) | walk1 | (dsimp only; walk1) | (leave1; walk_say "STEP leave1"; try dsimp only))
    dsimp only
    rename Below _ _ _ _ => B9
    rename Fr _ _ _ _ => F9
    rename News _ _ _ _ => N9
    rename Top topProg _ _ _ _ _ => T9
    rename IntsAre _ _ => I9
    rename List Int => ws
    have hm1 : 0 ≤ (4 + ws.sum.fmod 28) ∧ (4 + ws.sum.fmod 28) ≤ 31 := by
      rw [Int.fmod_eq_emod_of_nonneg _ (by decide)]
      omega
    obtain ⟨bb, hbb⟩ : ∃ bb : Nat, (4 + ws.sum.fmod 28) = (bb : Int) := ⟨(4 + ws.sum.fmod 28).toNat, by omega⟩
    rw [hbb] at F9 hm1
    rename @LT.lt Addr _ 23 _ ∧ @LT.lt Addr _ 16 _ => l9
    refine' lawBody (b := bb) B9 F9 (by k_asm) T9 (by assumption) (by assumption) N9 ?dW ?dH rfl (by omega) (ltN l9.2) (ltN l9.1) ?hd ?hu ?hE ?_
    case dW => assumption
    case dH => assumption
    case hd => decide
    case hu => decide
    case hE => passes_own
    intro h' tk' m' F g16 g23
    dsimp only
    refine ⟨?_, g23, g16, trivial⟩
    (first | (k_unfold; (try dsimp only)) | (k_end; wrow_close) | walk1 | (dsimp only; walk1) | (leave1; walk_say "STEP leave1"; try dsimp only))
    ))
end Mine
end

theorem PySem.Challenge.cw_hi0001_01_holds : PySem.Challenge.rw_hi0001_01.Holds := by
  exact Mine.lawT
