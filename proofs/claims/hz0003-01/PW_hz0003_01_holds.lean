import PyProof.Rows.All
import Wide.All
import OpenK.AllK
import Wide.FinOn
import Lean
import PySem.Challenge.RW_hz0003_01
set_option Elab.async false

section
open PySem PySem.W PyProof.Rows
set_option Elab.async false
set_option maxRecDepth 100000
set_option maxHeartbeats 8000000
namespace Mine
open_top hd for PySem.Challenge.rw_hz0003_01
end Mine
end

section
open PySem PySem.W PyProof.Rows PySem.Calls PySem.Spec
set_option Elab.async false
set_option maxRecDepth 100000
set_option maxHeartbeats 8000000
namespace Mine
/-- a call whose frame stands over a base that holds the entries of «rest» too: they come back unchanged -/
theorem callR {prog : Program} {w : World} {A₀ A : Around} {s : Shared} {base h₀ : Heap} {outer : List Env} {L : Addr} {m : Str → Option Value} {env : Env} {news rest : List (Addr × Obj)} {K : Frag}
    {R : Result → Shared → Prop} {name qual : Str} {params : Arguments} {body : List Stmt} {scope : Scope} {dV kV doc pm cdv ct oc : Value} {an od : Option Addr} {osl : Array (Option Value)} {f : Addr} {args : Args} {binds : List (Str × Value)}
    {p : Program} {loose : List Str} {mean : ExcName → Option Value} {mg mb : Str → Option Value}
    (B : Below A₀ base outer h₀) (F : Fr h₀ L s.heap m) (X₀ : K.In h₀) (N : News h₀ L s.heap news) (NR : News h₀ L s.heap rest) (hR : ∀ q ∈ rest, q.1 ∉ news.map (·.1)) (T : Top p loose mean mg mb h₀) (hA : A.frames = some (env :: outer)) (hf : env.frame = some L) (hke : env.scope.kind = .function)
    (ho : K.lookup f = some ⟨oc, od, .func (fnOf name qual params body scope dV kV doc pm an cdv ct), osl⟩) (hcd : codeIn K cdv qual = true) (hroom : A.depth < recursionLimit)
    (hbind : BindsTo s (fnOf name qual params body scope dV kV doc pm an cdv ct) args binds) (hloc : ∀ y ∈ binds, scope.names.lookup y.1 = some .local)
    (h : ∀ g L' h₁, Fr h₀ L g m → Fr g L' h₁ (fun y => binds.reverse.lookup y) → News g L' h₁ news → News h₀ L g rest → Below A base (env :: outer) g → K.In g → Top p loose mean mg mb g → (∀ q ∈ news, q.1 < L') → (∀ q ∈ rest, q.1 < L') →
      wpAny (model prog w) (A.deeper (envX qual scope L' f cdv [])) (execs body (envX qual scope L' f cdv []))
        (fun fl s' => LeaveK h₀ L m g R (match fl with | .ret v => v | _ => .none) s')
        (fun e s' => wpAny (model prog w) (A.deeper (envX qual scope L' f cdv [])) (leaving (envX qual scope L' f cdv []) e) (fun _ s'' => R (.error e) s'') (fun e' s'' => R (.error e') s'') s')
        { s with heap := h₁, toks := s.toks + binds.length })
    (hco : scope.isCoroutine = false) (hgen : scope.isGenerator = false) (hk : scope.kind = .function)
    (hcell : ∀ x ∈ scope.names, x.2 ≠ .cell) : codeAny (model prog w) A (.call (.ref f) args) R s := by
  obtain ⟨FG, BG, st, lv⟩ := groundX (R := R) B F N hA hf hke
  have XS := X₀.keeps F.keep
  have NG : News h₀ L (hideAll s.heap (news.map (·.1))) rest := fun q hq => ⟨hideAll_get _ (NR q hq).1 (hR q hq), (NR q hq).2⟩
  refine codeAny_call_def (fd := fnOf name qual params body scope dV kV doc pm an cdv ct) (body := body) (binds := binds) hroom (XS _ _ ho) rfl (T.nolimit.keeps F.keep) (codeRec_of XS hcd) rfl hbind hcell hloc (fun h₁ hns hk₁ => ?_) hco hgen hk
  have F₁ : Fr (hideAll s.heap (news.map (·.1))) s.heap.objs.size h₁ (fun y => binds.reverse.lookup y) := ⟨hns, fun b o e => hk₁ b o (of_hideAll _ e), Nat.le_of_eq (hideAll_size _ _)⟩
  have N₁ : News (hideAll s.heap (news.map (·.1))) s.heap.objs.size h₁ news := fun q hq => ⟨hk₁ _ _ (N q hq).1, Nat.ne_of_lt (Heap.lt_size (N q hq).1), hideAll_none _ (List.mem_map_of_mem hq)⟩
  exact wpAny_mono (h _ _ h₁ FG F₁ N₁ NG BG (X₀.keeps st) (T.keeps st) (fun q hq => Heap.lt_size (N q hq).1) fun q hq => Heap.lt_size (NR q hq).1) (fun fl s' hl => lv _ _ hl) fun _ _ y => y

/-- a call of a def made in a body, in the same manner -/
theorem callRN {prog : Program} {w : World} {A₀ A : Around} {s : Shared} {base h₀ : Heap} {outer : List Env} {L : Addr} {m : Str → Option Value} {env : Env} {news rest : List (Addr × Obj)} {K : Frag}
    {R : Result → Shared → Prop} {name qual : Str} {params : Arguments} {body : List Stmt} {scope : Scope} {cl : List (Str × Addr)} {doc pm ctv : Value} {c' f : Addr} {args : Args} {binds : List (Str × Value)}
    {p : Program} {loose : List Str} {mean : ExcName → Option Value} {mg mb : Str → Option Value}
    (B : Below A₀ base outer h₀) (F : Fr h₀ L s.heap m) (X₀ : K.In h₀) (N : News h₀ L s.heap news) (NR : News h₀ L s.heap rest) (hR : ∀ q ∈ rest, q.1 ∉ news.map (·.1)) (T : Top p loose mean mg mb h₀) (hA : A.frames = some (env :: outer)) (hf : env.frame = some L) (hke : env.scope.kind = .function)
    (ho : (f, fnMade name qual params body scope cl doc pm c' ctv) ∈ news) (hcd : s.heap.CodeRec (.ref c') qual) (hroom : A.depth < recursionLimit)
    (hbind : BindsTo s (fnX name qual params body scope cl .none .none doc pm none (.ref c') ctv) args binds) (hloc : ∀ y ∈ binds, scope.names.lookup y.1 = some .local)
    (h : ∀ g L' h₁, Fr h₀ L g m → Fr g L' h₁ (fun y => binds.reverse.lookup y) → News g L' h₁ news → News h₀ L g rest → Below A base (env :: outer) g → K.In g → Top p loose mean mg mb g → (∀ q ∈ news, q.1 < L') → (∀ q ∈ rest, q.1 < L') →
      wpAny (model prog w) (A.deeper (envX qual scope L' f (.ref c') cl)) (execs body (envX qual scope L' f (.ref c') cl))
        (fun fl s' => LeaveK h₀ L m g R (match fl with | .ret v => v | _ => .none) s')
        (fun e s' => wpAny (model prog w) (A.deeper (envX qual scope L' f (.ref c') cl)) (leaving (envX qual scope L' f (.ref c') cl) e) (fun _ s'' => R (.error e) s'') (fun e' s'' => R (.error e') s'') s')
        { s with heap := h₁, toks := s.toks + binds.length })
    (hco : scope.isCoroutine = false) (hgen : scope.isGenerator = false) (hk : scope.kind = .function)
    (hcell : ∀ x ∈ scope.names, x.2 ≠ .cell) : codeAny (model prog w) A (.call (.ref f) args) R s := by
  obtain ⟨FG, BG, st, lv⟩ := groundX (R := R) B F N hA hf hke
  have NG : News h₀ L (hideAll s.heap (news.map (·.1))) rest := fun q hq => ⟨hideAll_get _ (NR q hq).1 (hR q hq), (NR q hq).2⟩
  refine codeAny_call_def (fd := fnX name qual params body scope cl .none .none doc pm none (.ref c') ctv) (body := body) (binds := binds) hroom (N _ ho).1 rfl (T.nolimit.keeps F.keep) hcd rfl hbind hcell hloc (fun h₁ hns hk₁ => ?_) hco hgen hk
  have F₁ : Fr (hideAll s.heap (news.map (·.1))) s.heap.objs.size h₁ (fun y => binds.reverse.lookup y) := ⟨hns, fun b o e => hk₁ b o (of_hideAll _ e), Nat.le_of_eq (hideAll_size _ _)⟩
  have N₁ : News (hideAll s.heap (news.map (·.1))) s.heap.objs.size h₁ news := fun q hq => ⟨hk₁ _ _ (N q hq).1, Nat.ne_of_lt (Heap.lt_size (N q hq).1), hideAll_none _ (List.mem_map_of_mem hq)⟩
  exact wpAny_mono (h _ _ h₁ FG F₁ N₁ NG BG (X₀.keeps st) (T.keeps st) (fun q hq => Heap.lt_size (N q hq).1) fun q hq => Heap.lt_size (NR q hq).1) (fun fl s' hl => lv _ _ hl) fun _ _ y => y

/-- a call of a def with cells, in the same manner -/
theorem callRC {prog : Program} {w : World} {A₀ A : Around} {s : Shared} {base h₀ : Heap} {outer : List Env} {L : Addr} {m : Str → Option Value} {env : Env} {news rest : List (Addr × Obj)} {K : Frag}
    {R : Result → Shared → Prop} {name qual : Str} {params : Arguments} {body : List Stmt} {scope : Scope} {dV kV doc pm cdv ct oc : Value} {an od : Option Addr} {osl : Array (Option Value)} {f : Addr} {args : Args} {binds : List (Str × Value)}
    {p : Program} {loose : List Str} {mean : ExcName → Option Value} {mg mb : Str → Option Value}
    (B : Below A₀ base outer h₀) (F : Fr h₀ L s.heap m) (X₀ : K.In h₀) (N : News h₀ L s.heap news) (NR : News h₀ L s.heap rest) (hR : ∀ q ∈ rest, q.1 ∉ news.map (·.1)) (T : Top p loose mean mg mb h₀) (hA : A.frames = some (env :: outer)) (hf : env.frame = some L) (hke : env.scope.kind = .function)
    (ho : K.lookup f = some ⟨oc, od, .func (fnOf name qual params body scope dV kV doc pm an cdv ct), osl⟩) (hcd : codeIn K cdv qual = true) (hroom : A.depth < recursionLimit)
    (hbind : BindsTo s (fnOf name qual params body scope dV kV doc pm an cdv ct) args binds)
    (hkind : (binds.all fun y => scope.names.lookup y.1 == some .local || scope.names.lookup y.1 == some .cell) = true)
    (hnd : ((cellsFrom 0 scope.names []).map (·.1)).Nodup)
    (h : ∀ g L' h₁ tk cells, Fr h₀ L g m → Fr g L' h₁ (bindL (envOfC qual scope L' f cdv).kindOf binds fun _ => none) → News g L' h₁ (cells ++ news) →
      CellsAre (bindC (envOfC qual scope L' f cdv).kindOf binds fun _ => none) (cellsFrom (L' + 1) scope.names []) cells → News h₀ L g rest → Below A base (env :: outer) g → K.In g → Top p loose mean mg mb g → (∀ q ∈ news, q.1 < L') → (∀ q ∈ rest, q.1 < L') →
      wpAny (model prog w) (A.deeper (envOfC qual scope L' f cdv)) (execs body (envOfC qual scope L' f cdv))
        (fun fl s' => LeaveK h₀ L m g R (match fl with | .ret v => v | _ => .none) s')
        (fun e s' => wpAny (model prog w) (A.deeper (envOfC qual scope L' f cdv)) (leaving (envOfC qual scope L' f cdv) e) (fun _ s'' => R (.error e) s'') (fun e' s'' => R (.error e') s'') s')
        { s with heap := h₁, toks := tk })
    (hco : scope.isCoroutine = false) (hgen : scope.isGenerator = false) (hk : scope.kind = .function) : codeAny (model prog w) A (.call (.ref f) args) R s := by
  obtain ⟨FG, BG, st, lv⟩ := groundX (R := R) B F N hA hf hke
  have XS := X₀.keeps F.keep
  have NG : News h₀ L (hideAll s.heap (news.map (·.1))) rest := fun q hq => ⟨hideAll_get _ (NR q hq).1 (hR q hq), (NR q hq).2⟩
  refine codeAny_call_function hroom (XS _ _ ho) rfl hco hgen rfl (codeRec_of XS hcd) (hbind _ _ _ _ ?_)
  refine wpAny_newFunctionEnv_cells hk (kindsX hkind _) fun env' he s' x => ?_
  subst he
  refine ⟨(T.nolimit.keeps F.keep).keeps x.toInCall.keep, codeAny_func ?_⟩
  obtain ⟨h₁, tk, rfl, _⟩ := x.done
  have hk₁ := x.toInCall.keep
  obtain ⟨cells, NC, Y⟩ := Cl.news (h₀ := s.heap) (Nat.le_refl _) fun n c hm => ⟨x.cell n c (lookup_of_mem_nodup (cellsFrom_names scope.names 0 (s.heap.objs.size + 1) [] [] rfl ▸ hnd) hm), x.above n c hm⟩
  have F₁ : Fr (hideAll s.heap (news.map (·.1))) s.heap.objs.size h₁ _ := ⟨x.toInCall.ns, fun b o e => hk₁ b o (of_hideAll _ e), Nat.le_of_eq (hideAll_size _ _)⟩
  have N₁ : News (hideAll s.heap (news.map (·.1))) s.heap.objs.size h₁ (cells ++ news) := fun q hq => by
    rcases List.mem_append.mp hq with hq | hq
    · refine ⟨(NC q hq).1, (NC q hq).2.1, ?_⟩
      cases e : (hideAll s.heap (news.map (·.1))).get? q.1 with
      | none => rfl
      | some o => have := of_hideAll _ e; rw [(NC q hq).2.2] at this; cases this
    · exact ⟨hk₁ _ _ (N q hq).1, Nat.ne_of_lt (Heap.lt_size (N q hq).1), hideAll_none _ (List.mem_map_of_mem hq)⟩
  exact wpAny_mono (h _ _ h₁ tk cells FG F₁ N₁ Y NG BG (X₀.keeps st) (T.keeps st) (fun q hq => Heap.lt_size (N q hq).1) fun q hq => Heap.lt_size (NR q hq).1) (fun fl s' hl => lv _ _ hl) fun _ _ y => y

theorem News.over {h₀ g h' : Heap} {L : Addr} {rest : List (Addr × Obj)} (NR : News h₀ L g rest) (k : ∀ b o, g.get? b = some o → h'.get? b = some o) : News h₀ L h' rest := fun q hq => ⟨k _ _ (NR q hq).1, (NR q hq).2⟩
theorem News.drop {h₀ h : Heap} {L : Addr} {news news' : List (Addr × Obj)} (N : News h₀ L h news) (hs : ∀ q ∈ news', q ∈ news) : News h₀ L h news' := fun q hq => N q (hs q hq)
theorem News.app {h₀ h : Heap} {L : Addr} {news news' : List (Addr × Obj)} (N : News h₀ L h news) (N' : News h₀ L h news') : News h₀ L h (news ++ news') := fun q hq => (List.mem_append.mp hq).elim (N q) (N' q)
end Mine
end

section
set_option Elab.async false
set_option maxRecDepth 100000
namespace Mine
open PySem PySem.W PyProof.Rows
theorem xor_cut (x k : Nat) : x &&& (x / 2 ^ k * 2 ^ k) = x / 2 ^ k * 2 ^ k := by
  apply Nat.eq_of_testBit_eq
  intro i
  rw [Nat.testBit_and, Nat.testBit_mul_two_pow, Nat.testBit_div_two_pow]
  by_cases h : k ≤ i
  · have e : i - k + k = i := by omega
    simp [h, e]
  · simp [h]
theorem bitXor_cut (x k : Nat) : Builtin.bitXor (x : Int) (((x / 2 ^ k : Nat) : Int) * 2 ^ k) = ((x % 2 ^ k : Nat) : Int) := by
  have e : ((x / 2 ^ k : Nat) : Int) * 2 ^ k = ((x / 2 ^ k * 2 ^ k : Nat) : Int) := by rw [Int.natCast_mul, W.kbt_cast]
  rw [e, bitXor_and, bitAnd_pp (by omega) (by omega), Int.toNat_natCast, Int.toNat_natCast, xor_cut]
  have h := Nat.div_add_mod x (2 ^ k)
  have h2 : 2 ^ k * (x / 2 ^ k) = x / 2 ^ k * 2 ^ k := Nat.mul_comm _ _
  omega
def setD (n : Nat) : List Int → Nat → Nat → Nat → List Int
  | ns, _, 0, _ => ns
  | ns, lo, k + 1, x => setD n (ns.set lo ((x % 2 ^ n : Nat) : Int)) (lo + 1) k (x / 2 ^ n)
theorem setD_len (n : Nat) : ∀ (k : Nat) (ns : List Int) (lo x : Nat), (setD n ns lo k x).length = ns.length
  | 0, _, _, _ => rfl
  | k + 1, ns, lo, x => by rw [setD, setD_len n k, List.length_set]
theorem setD_one (n : Nat) (ns : List Int) (lo x : Nat) (h : x < 2 ^ n) : setD n ns lo 1 x = ns.set lo (x : Int) := by
  show ns.set lo ((x % 2 ^ n : Nat) : Int) = _
  rw [Nat.mod_eq_of_lt h]
theorem mod_div_pow (x n m : Nat) : x % 2 ^ (n + m) / 2 ^ n = x / 2 ^ n % 2 ^ m := by
  rw [Nat.pow_add, Nat.mod_mul_right_div_self]
theorem mod_mod_pow (x n m : Nat) : x % 2 ^ (n + m) % 2 ^ n = x % 2 ^ n := by
  rw [Nat.pow_add, Nat.mod_mul_right_mod]
theorem div_div_pow (x n m : Nat) : x / 2 ^ n / 2 ^ m = x / 2 ^ (n + m) := by
  rw [Nat.div_div_eq_div_mul, Nat.pow_add]
theorem setD_add (n b : Nat) : ∀ (a : Nat) (ns : List Int) (lo x : Nat), setD n (setD n ns lo a (x % 2 ^ (n * a))) (lo + a) b (x / 2 ^ (n * a)) = setD n ns lo (a + b) x
  | 0, ns, lo, x => by simp [setD]
  | a + 1, ns, lo, x => by
    have e : n * (a + 1) = n + n * a := by rw [Nat.mul_succ, Nat.add_comm]
    have e2 : a + 1 + b = (a + b) + 1 := by omega
    have e3 : lo + (a + 1) = lo + 1 + a := by omega
    rw [e, e2, setD, setD, mod_mod_pow, mod_div_pow, e3, ← div_div_pow, setD_add n b a]
def digs (n : Nat) : Nat → Nat → List Int
  | 0, _ => []
  | k + 1, x => ((x % 2 ^ n : Nat) : Int) :: digs n k (x / 2 ^ n)
theorem digs_len (n : Nat) : ∀ (k x : Nat), (digs n k x).length = k
  | 0, _ => rfl
  | k + 1, x => by rw [digs, List.length_cons, digs_len n k]
theorem setD_rep (n : Nat) : ∀ (k : Nat) (pre : List Int) (x : Nat), setD n (pre ++ List.replicate k 0) pre.length k x = pre ++ digs n k x
  | 0, pre, x => by simp [setD, digs]
  | k + 1, pre, x => by
    have h := setD_rep n k (pre ++ [((x % 2 ^ n : Nat) : Int)]) (x / 2 ^ n)
    rw [List.length_append, List.length_cons, List.length_nil, Nat.zero_add, List.append_assoc, List.append_assoc] at h
    rw [setD, digs, List.replicate_succ, List.set_append_right _ _ (Nat.le_refl _), Nat.sub_self, List.set_cons_zero]
    exact h
theorem digs_mem (n : Nat) : ∀ (k x : Nat), ∀ d ∈ digs n k x, 0 ≤ d ∧ d < 2 ^ n
  | 0, _, _, h => nomatch h
  | k + 1, x, d, h => by
    rcases List.mem_cons.mp h with rfl | h
    · have := Nat.mod_lt x (Nat.two_pow_pos n)
      have e := W.kbt_cast n
      constructor
      · omega
      · rw [← e]; omega
    · exact digs_mem n k _ d h
def val (n : Nat) : List Int → Int
  | [] => 0
  | d :: ds => d + 2 ^ n * val n ds
theorem val_digs (n : Nat) : ∀ (k x : Nat), x < 2 ^ (n * k) → val n (digs n k x) = (x : Int)
  | 0, x, h => by simp at h; subst h; rfl
  | k + 1, x, h => by
    have e : n * (k + 1) = n + n * k := by rw [Nat.mul_succ, Nat.add_comm]
    rw [e, Nat.pow_add] at h
    rw [digs, val, val_digs n k _ (Nat.div_lt_of_lt_mul h), ← W.kbt_cast, ← Int.natCast_mul, ← Int.natCast_add]
    have := Nat.mod_add_div x (2 ^ n)
    rw [this]
end Mine
end

section
open PySem PySem.W PyProof.Rows PySem.Calls PySem.Spec
set_option Elab.async false
set_option maxRecDepth 100000
set_option maxHeartbeats 1000000
namespace Mine

abbrev led1 (l f c' cN cI cA : Addr) (vs : List Value) (nn : Nat) (fn oc oN oI oA : Obj) : List (Addr × Obj) :=
  [(l, W.listOf vs.toArray nn), (f, fn), (c', oc), (cN, oN), (cI, oI), (cA, oA)]

structure In1 (w : World) (nm : Str) (prm : Arguments) (body : List Stmt) (sc : Scope) (k : Nat) : Prop where
  out : ∀ {dp un : Nat} {gd : Option (List Code)} {cn : Str} {cs : Scope} {a' : Addr} {ccd : Value} {cl : List (Str × Addr)} {outer : List Env} {A₀ : Around} {base h₀ : Heap} {L : Addr} {m : Str → Option Value} {s : Shared} {Q E : Value → Shared → Prop}
    {p : Program} {loose : List Str} {mean : ExcName → Option Value} {mg mb : Str → Option Value} {rest : List (Addr × Obj)}
    {l f c' cN cI cA : Addr} {vs : List Value} {ns : List Int} {nn : Nat} {oc oN oI oA : Obj} {qual : Str} {doc pm ctv : Value} {cvs : Array Value} {ct tn : Tok} (N lo : Nat) (x : Nat) {xi li hi : Int} {tx tl th : Tok},
    Below A₀ base outer h₀ → Fr h₀ L s.heap m → (hd.heap_39 w.params).In h₀ → Top p loose mean mg mb h₀ → CodeHd base 48 44 → cs.kind = .function →
    News h₀ L s.heap (led1 l f c' cN cI cA vs nn (fnMade nm qual prm body sc [(Str.ofString "n", cN), (Str.ofString "inner", cI), (Str.ofString "a_digits", cA)] doc pm c' ctv) oc oN oI oA) →
    News h₀ L s.heap rest → (∀ q ∈ rest, q.1 ≠ l ∧ q.1 ≠ f ∧ q.1 ≠ c' ∧ q.1 ≠ cN ∧ q.1 ≠ cI ∧ q.1 ≠ cA) →
    oc.data = .fields cvs → cvs[1]? = some (.str qual ct) → oN.data = .cell (some (.int (N : Int) tn)) → oI.data = .cell (some (.ref f)) → oA.data = .cell (some (.ref l)) →
    (f ≠ l ∧ c' ≠ l ∧ cN ≠ l ∧ cI ≠ l ∧ cA ≠ l) →
    IntsAre vs ns → 1 ≤ N → N ≤ 4 → 1 ≤ k → lo + k ≤ ns.length → ns.length ≤ 20 → x < 2 ^ (N * k) → xi = (x : Int) → li = (lo : Int) → hi = ((lo + k : Nat) : Int) →
    dp + k < recursionLimit → un + 8 * k < cLine →
    (∀ (vs' : List Value) (h' : Heap) (tk' : Nat), Fr h₀ L h' m → News h₀ L h' (led1 l f c' cN cI cA vs' nn (fnMade nm qual prm body sc [(Str.ofString "n", cN), (Str.ofString "inner", cI), (Str.ofString "a_digits", cA)] doc pm c' ctv) oc oN oI oA) → News h₀ L h' rest →
      IntsAre vs' (setD N ns lo k x) → Q .none { s with heap := h', toks := tk' }) →
    wpAny (model PySem.Challenge.rw_hz0003_01.row.prog w) (ktrTop dp un gd cn cs L a' ccd cl outer) (call (.ref f) [.int xi tx, .int li tl, .int hi th]) Q E s

theorem lit_at {α : Type} {a b : α} {P : Prop} {x : Option α} (h1 : x = some a) (h2 : x = some b) (k : a = b → P) : P := k (Option.some.inj (h1.symm.trans h2))

theorem mid_is {li hi : Int} {lo k : Nat} (e1 : li = (lo : Int)) (e2 : hi = ((lo + k : Nat) : Int)) : (li + hi).fdiv (2 ^ Int.toNat 1) = ((lo + k / 2 : Nat) : Int) := by
  subst e1 e2
  rw [Int.fdiv_eq_ediv_of_nonneg _ (by decide)]
  simp
  omega
theorem shift_is {li hi : Int} {lo k N : Nat} (e1 : li = (lo : Int)) (e2 : hi = ((lo + k : Nat) : Int)) : ((li + hi).fdiv (2 ^ Int.toNat 1) - li) * (N : Int) = ((N * (k / 2) : Nat) : Int) := by
  rw [mid_is e1 e2, e1, Int.natCast_mul, Int.mul_comm]
  congr 1
  omega
theorem up_is {x sh : Nat} {xi sI : Int} (e : xi = (x : Int)) (es : sI = (sh : Int)) : xi.fdiv (2 ^ sI.toNat) = ((x / 2 ^ sh : Nat) : Int) := by
  subst e es
  rw [Int.toNat_natCast, Int.fdiv_eq_ediv_of_nonneg _ (Int.le_of_lt (kbt_pos _)), Int.natCast_ediv, kbt_cast]
theorem low_is {x sh : Nat} {xi sI : Int} (e : xi = (x : Int)) (es : sI = (sh : Int)) : Builtin.bitXor xi (xi.fdiv (2 ^ sI.toNat) * 2 ^ sI.toNat) = ((x % 2 ^ sh : Nat) : Int) := by
  rw [up_is e es]
  subst e es
  rw [Int.toNat_natCast, bitXor_cut]
theorem bits_lt {x b : Nat} (h : x < 2 ^ b) : Builtin.Int.intBits (x : Int) ≤ b := intBits_le (by simpa using h)

theorem in1 {w : World} {nm ql : Str} {ps : Arguments} {s0 s2 s3 : Stmt} {bnd fnm : Str} {ppos : Pos} {psc sc : Scope} {prm : Arguments} {body : List Stmt} {dV kV doc0 pm0 cdv ct0 oc0 : Value} {an0 od0 : Option Addr} {osl : Array (Option Value)}
  (hlk : (hd.heap_39 w.params).lookup 49 = some ⟨oc0, od0, .func (fnOf nm ql ps [s0, .FunctionDef fnm prm body [] none [] sc none bnd ppos, s2, s3] psc dV kV doc0 pm0 an0 cdv ct0), osl⟩) : ∀ k, In1 w fnm prm body sc k := by
  have hK9 : hd.heap_39 = hd.heap_39 ∧ PySem.Challenge.rw_hz0003_01 = PySem.Challenge.rw_hz0003_01 := by (k_fill; exact ⟨rfl, rfl⟩)
  clear hK9
  refine' lit_at hlk ?h2 ?k
  case h2 => k_is
  case k =>
    clear hlk
    intro e
    cases e
    intro k
    induction k using Nat.strongRecOn with
    | ind k ih =>
    refine ⟨?_⟩
    intro dp un gd cn cs a' ccd cl outer A₀ base h₀ L m s Q E p loose mean mg mb rest l f c' cN cI cA vs ns nn oc oN oI oA qual doc pm ctv cvs ct tn N lo x xi li hi tx tl th B F X T CH hk N0 NR hR d1 d2 dN dI dA hne hi0 hN1 hN4 hk1 hlen hlen2 hx exi eli ehi hdp hun ret
    obtain ⟨hf, hc, hn1, hn2, hn3⟩ := hne
    refine wpAny_call ?_
    k_dflt (refine' callRN ?k1 ?k2 ?k3 ?k4 ?kr ?ko ?k5 ?kA ?kF ?kK ?k6 ?k7 ?k8 ?k9 ?kB ?_ ?c2 ?c3 ?c4 ?c5; (case kA => exact rfl); (case kF => exact rfl); (case kK => exact hk); (case k1 => exact B); (case k2 => exact F); (case k3 => exact X); (case k4 => exact N0); (case kr => exact NR); (case ko => (intro q hq; have hR' := hR q hq; simp; omega)); (case k5 => exact T); (case k6 => k_mem); (case k7 => exact codeRec_news N0 (by k_mem) d1 d2); (case k8 => (show dp < recursionLimit; omega)); (case k9 => exact BindsTo.of_eq rfl); (case c5 => decide); (case kB => exact locs rfl); (case c2 => exact rfl); (case c3 => exact rfl); (case c4 => exact rfl); k_whole)
    intro g' L' h' FG' F' N' NRg B' X' T' l1 l2
    (try dsimp only); (try k_lift B'); (try k_fold)
    clear N0 NR hR l1 l2
    have eM := mid_is eli ehi
    have eS := shift_is (N := N) eli ehi
    have hkk : N * (k / 2) ≤ 40 := Nat.le_trans (Nat.mul_le_mul hN4 (show k / 2 ≤ 10 by omega)) (by decide)
    have hS0 : 0 ≤ ((li + hi).fdiv (2 ^ Int.toNat 1) - li) * (N : Int) := by omega
    have hxb : x < 2 ^ 80 := Nat.lt_of_lt_of_le hx (Nat.pow_le_pow_right (by decide) (Nat.le_trans (Nat.mul_le_mul hN4 (show k ≤ 20 by omega)) (by decide)))
    have hup := up_is exi eS
    have hub : Builtin.Int.intBits ((x / 2 ^ (N * (k / 2)) : Nat) : Int) ≤ 80 := bits_lt (Nat.lt_of_le_of_lt (Nat.div_le_self _ _) hxb)
    have hS1 : (Builtin.Int.intBits (xi.fdiv (2 ^ (((li + hi).fdiv (2 ^ Int.toNat 1) - li) * (N : Int)).toNat)) : Int) + ((li + hi).fdiv (2 ^ Int.toNat 1) - li) * (N : Int) ≤ 2 ^ 27 := by
      rw [hup, eS]; omega
    k_with_none
    k_with "binaryOp LShift int int" => (refine' lshift_int hS0 hS1 ?_)
    k_steps
    · have e1 : k = 1 := by omega
      subst e1
      refine ret _ _ _ (by assumption) (by assumption) (News.over NRg (Fr.keep (by assumption))) ?_
      rw [setD_one _ _ _ _ (by simpa using hx)]
      have e2 : li.toNat = lo := by omega
      rw [← e2, ← exi]
      assumption
    · have hk2 : 2 ≤ k := by
        have h9 : li + 1 ≠ hi := by assumption
        omega
      have I1 := ih (k / 2) (by omega)
      refine I1.out (rest := []) N lo (x % 2 ^ (N * (k / 2))) (by k_asm) (by k_asm) (by k_asm) (by k_asm) CH rfl (by k_asm) (fun _ h9 => nomatch h9) (fun _ h9 => nomatch h9) d1 d2 dN dI dA ⟨hf, hc, hn1, hn2, hn3⟩ hi0 hN1 hN4 (by omega) (by omega) hlen2 (Nat.mod_lt _ (Nat.two_pow_pos _)) (low_is exi eS) eli eM ?_ ?_ ?_
      · show dp + 1 + k / 2 < recursionLimit
        omega
      · show un + 3 + 8 * (k / 2) < cLine
        omega
      intro vs1 h1 tk1 F1 N1 Nz hi1
      clear Nz
      (try dsimp only)
      k_sweep
      k_steps
      have I2 := ih (k - k / 2) (by omega)
      refine I2.out (rest := []) N (lo + k / 2) (x / 2 ^ (N * (k / 2))) (by k_asm) (by k_asm) (by k_asm) (by k_asm) CH rfl (by k_asm) (fun _ h9 => nomatch h9) (fun _ h9 => nomatch h9) d1 d2 dN dI dA ⟨hf, hc, hn1, hn2, hn3⟩ hi1 hN1 hN4 (by omega) (by rw [setD_len]; omega) (by rw [setD_len]; omega) ?_ hup eM ?_ ?_ ?_ ?_
      · refine Nat.div_lt_of_lt_mul ?_
        rw [← Nat.pow_add, ← Nat.mul_add]
        have e9 : k / 2 + (k - k / 2) = k := by omega
        rw [e9]
        exact hx
      · omega
      · show dp + 1 + (k - k / 2) < recursionLimit
        omega
      · show un + 3 + 8 * (k - k / 2) < cLine
        omega
      intro vs2 h2 tk2 F2 N2 Nz hi2
      clear Nz
      (try dsimp only)
      k_sweep
      k_steps
      refine ret vs2 _ _ (by assumption) (by assumption) (News.over NRg (Fr.keep (by assumption))) ?_
      have e9 := setD_add N (k - k / 2) (k / 2) ns lo x
      have e8 : k / 2 + (k - k / 2) = k := by omega
      rw [e8] at e9
      rw [← e9]
      exact hi2
end Mine
end

section
set_option Elab.async false
set_option maxRecDepth 100000
namespace Mine
open PySem PySem.W PyProof.Rows
theorem val_append (n : Nat) : ∀ xs ys : List Int, val n (xs ++ ys) = val n xs + 2 ^ (n * xs.length) * val n ys
  | [], ys => by simp [val]
  | x :: xs, ys => by
    rw [List.cons_append, val, val, val_append n xs ys, List.length_cons, Nat.mul_succ, Nat.add_comm (n * xs.length), Int.pow_add, Int.mul_add, Int.mul_assoc]
    omega
theorem val_bound (n : Nat) : ∀ xs : List Int, (∀ d ∈ xs, 0 ≤ d ∧ d < 2 ^ n) → 0 ≤ val n xs ∧ val n xs < 2 ^ (n * xs.length)
  | [], _ => by simp [val]
  | x :: xs, h => by
    have h1 := h x (.head _)
    have h2 := val_bound n xs fun d hd => h d (.tail _ hd)
    have hp := kbt_pos n
    have e : (2 : Int) ^ (n * (xs.length + 1)) = 2 ^ n * 2 ^ (n * xs.length) := by rw [Nat.mul_succ, Nat.add_comm, Int.pow_add]
    rw [val, List.length_cons, e]
    have h3 : 0 ≤ 2 ^ n * val n xs := Int.mul_nonneg (Int.le_of_lt hp) h2.1
    have h4 : (2 : Int) ^ n * (val n xs + 1) ≤ 2 ^ n * 2 ^ (n * xs.length) := Int.mul_le_mul_of_nonneg_left (by omega) (Int.le_of_lt hp)
    rw [Int.mul_add, Int.mul_one] at h4
    omega
def vsl (n : Nat) (ns : List Int) (lo k : Nat) : Int := val n ((ns.drop lo).take k)
theorem vsl_split (n : Nat) (ns : List Int) (lo a b : Nat) (h : lo + (a + b) ≤ ns.length) : vsl n ns lo (a + b) = vsl n ns (lo + a) b * 2 ^ (n * a) + vsl n ns lo a := by
  unfold vsl
  rw [List.take_add, val_append, List.drop_drop, List.length_take, List.length_drop, Nat.min_eq_left (by omega), Int.mul_comm, Int.add_comm]
theorem vsl_one (n : Nat) (ns : List Int) (lo : Nat) (h : lo < ns.length) : vsl n ns lo 1 = ns.getD lo 0 := by
  have e : (ns.drop lo).take 1 = [ns[lo]] := by
    rw [List.drop_eq_getElem_cons h, List.take_succ_cons, List.take_zero]
  unfold vsl
  rw [e]
  simp [val, h]
theorem vsl_all (n : Nat) (ns : List Int) : vsl n ns 0 ns.length = val n ns := by simp [vsl]
theorem vsl_bound {n : Nat} {ns : List Int} (lo k : Nat) (h : ∀ d ∈ ns, 0 ≤ d ∧ d < 2 ^ n) (hn : n ≤ 4) (hl : ns.length ≤ 20) : 0 ≤ vsl n ns lo k ∧ vsl n ns lo k < 2 ^ 80 := by
  have h1 := val_bound n ((ns.drop lo).take k) fun d hd => h d (List.mem_of_mem_drop (List.mem_of_mem_take hd))
  have h2 : ((ns.drop lo).take k).length ≤ 20 := by rw [List.length_take, List.length_drop]; omega
  have h3 : (2 : Nat) ^ (n * ((ns.drop lo).take k).length) ≤ 2 ^ 80 := Nat.pow_le_pow_right (by decide) (Nat.le_trans (Nat.mul_le_mul hn h2) (by decide))
  have h4 := kbt_cast (n * ((ns.drop lo).take k).length)
  refine ⟨h1.1, Int.lt_of_lt_of_le h1.2 ?_⟩
  rw [← h4]
  omega
end Mine
end

section
open PySem PySem.W PyProof.Rows PySem.Calls PySem.Spec
set_option Elab.async false
set_option maxRecDepth 100000
set_option maxHeartbeats 1000000
namespace Mine

structure In2 (w : World) (nm : Str) (prm : Arguments) (body : List Stmt) (sc : Scope) (k : Nat) : Prop where
  out : ∀ {dp un : Nat} {gd : Option (List Code)} {cn : Str} {cs : Scope} {a' : Addr} {ccd : Value} {cl : List (Str × Addr)} {outer : List Env} {A₀ : Around} {base h₀ : Heap} {L : Addr} {m : Str → Option Value} {s : Shared} {Q E : Value → Shared → Prop}
    {p : Program} {loose : List Str} {mean : ExcName → Option Value} {mg mb : Str → Option Value} {rest : List (Addr × Obj)}
    {l f c' cN cI cA : Addr} {vs : List Value} {ns : List Int} {nn : Nat} {oc oN oI oA : Obj} {qual : Str} {doc pm ctv : Value} {cvs : Array Value} {ct tn : Tok} (N lo : Nat) {li hi : Int} {tl th : Tok},
    Below A₀ base outer h₀ → Fr h₀ L s.heap m → (hd.heap_39 w.params).In h₀ → Top p loose mean mg mb h₀ → CodeHd base 55 51 → cs.kind = .function →
    News h₀ L s.heap (led1 l f c' cN cI cA vs nn (fnMade nm qual prm body sc [(Str.ofString "n", cN), (Str.ofString "inner", cI), (Str.ofString "digits", cA)] doc pm c' ctv) oc oN oI oA) →
    News h₀ L s.heap rest → (∀ q ∈ rest, q.1 ≠ l ∧ q.1 ≠ f ∧ q.1 ≠ c' ∧ q.1 ≠ cN ∧ q.1 ≠ cI ∧ q.1 ≠ cA) →
    oc.data = .fields cvs → cvs[1]? = some (.str qual ct) → oN.data = .cell (some (.int (N : Int) tn)) → oI.data = .cell (some (.ref f)) → oA.data = .cell (some (.ref l)) →
    (∀ d ∈ ns, 0 ≤ d ∧ d < 2 ^ N) →
    IntsAre vs ns → 1 ≤ N → N ≤ 4 → 1 ≤ k → lo + k ≤ ns.length → ns.length ≤ 20 → li = (lo : Int) → hi = ((lo + k : Nat) : Int) →
    dp + k < recursionLimit → un + 8 * k < cLine →
    (∀ (t' : Tok) (h' : Heap) (tk' : Nat), Fr h₀ L h' m → News h₀ L h' (led1 l f c' cN cI cA vs nn (fnMade nm qual prm body sc [(Str.ofString "n", cN), (Str.ofString "inner", cI), (Str.ofString "digits", cA)] doc pm c' ctv) oc oN oI oA) → News h₀ L h' rest →
      Q (.int (vsl N ns lo k) t') { s with heap := h', toks := tk' }) →
    wpAny (model PySem.Challenge.rw_hz0003_01.row.prog w) (ktrTop dp un gd cn cs L a' ccd cl outer) (call (.ref f) [.int li tl, .int hi th]) Q E s

theorem in2 {w : World} {nm ql : Str} {ps : Arguments} {s2 : Stmt} {bnd fnm : Str} {ppos : Pos} {psc sc : Scope} {prm : Arguments} {body : List Stmt} {dV kV doc0 pm0 cdv ct0 oc0 : Value} {an0 od0 : Option Addr} {osl : Array (Option Value)}
  (hlk : (hd.heap_39 w.params).lookup 56 = some ⟨oc0, od0, .func (fnOf nm ql ps [.FunctionDef fnm prm body [] none [] sc none bnd ppos, s2] psc dV kV doc0 pm0 an0 cdv ct0), osl⟩) : ∀ k, In2 w fnm prm body sc k := by
  have hK9 : hd.heap_39 = hd.heap_39 ∧ PySem.Challenge.rw_hz0003_01 = PySem.Challenge.rw_hz0003_01 := by (k_fill; exact ⟨rfl, rfl⟩)
  clear hK9
  refine' lit_at hlk ?h2 ?k
  case h2 => k_is
  case k =>
    clear hlk
    intro e
    cases e
    intro k
    induction k using Nat.strongRecOn with
    | ind k ih =>
    refine ⟨?_⟩
    intro dp un gd cn cs a' ccd cl outer A₀ base h₀ L m s Q E p loose mean mg mb rest l f c' cN cI cA vs ns nn oc oN oI oA qual doc pm ctv cvs ct tn N lo li hi tl th B F X T CH hk N0 NR hR d1 d2 dN dI dA hdg hi0 hN1 hN4 hk1 hlen hlen2 eli ehi hdp hun ret
    refine wpAny_call ?_
    k_dflt (refine' callRN ?k1 ?k2 ?k3 ?k4 ?kr ?ko ?k5 ?kA ?kF ?kK ?k6 ?k7 ?k8 ?k9 ?kB ?_ ?c2 ?c3 ?c4 ?c5; (case kA => exact rfl); (case kF => exact rfl); (case kK => exact hk); (case k1 => exact B); (case k2 => exact F); (case k3 => exact X); (case k4 => exact N0); (case kr => exact NR); (case ko => (intro q hq; have hR' := hR q hq; simp; omega)); (case k5 => exact T); (case k6 => k_mem); (case k7 => exact codeRec_news N0 (by k_mem) d1 d2); (case k8 => (show dp < recursionLimit; omega)); (case k9 => exact BindsTo.of_eq rfl); (case c5 => decide); (case kB => exact locs rfl); (case c2 => exact rfl); (case c3 => exact rfl); (case c4 => exact rfl); k_whole)
    intro g' L' h' FG' F' N' NRg B' X' T' l1 l2
    (try dsimp only); (try k_lift B'); (try k_fold)
    clear N0 NR hR l1 l2
    have eM := mid_is eli ehi
    have eS := shift_is (N := N) eli ehi
    have hkk : N * (k / 2) ≤ 40 := Nat.le_trans (Nat.mul_le_mul hN4 (show k / 2 ≤ 10 by omega)) (by decide)
    have hS0 : 0 ≤ ((li + hi).fdiv (2 ^ Int.toNat 1) - li) * (N : Int) := by omega
    have hv := vsl_bound (lo + k / 2) (k - k / 2) hdg hN4 hlen2
    have hvb : (Builtin.Int.intBits (vsl N ns (lo + k / 2) (k - k / 2)) : Int) ≤ 80 := by
      have h9 := intBits_le (a := vsl N ns (lo + k / 2) (k - k / 2)) (k := 80) (by omega)
      omega
    have hS1 : (Builtin.Int.intBits (vsl N ns (lo + k / 2) (k - k / 2)) : Int) + ((li + hi).fdiv (2 ^ Int.toNat 1) - li) * (N : Int) ≤ 2 ^ 27 := by omega
    k_with_none
    k_with "binaryOp LShift int int" => (refine' lshift_int hS0 hS1 ?_)
    k_steps
    · have e1 : k = 1 := by omega
      subst e1
      have e2 : li.toNat = lo := by omega
      have e3 : ns.getD li.toNat 0 = vsl N ns lo 1 := by rw [e2, vsl_one _ _ _ (by omega)]
      rw [e3]
      exact ret _ _ _ (by assumption) (by assumption) (News.over NRg (Fr.keep (by assumption)))
    · have hk2 : 2 ≤ k := by
        have h9 : li + 1 ≠ hi := by assumption
        omega
      have I1 := ih (k - k / 2) (by omega)
      refine I1.out (rest := []) N (lo + k / 2) (by k_asm) (by k_asm) (by k_asm) (by k_asm) CH rfl (by k_asm) (fun _ h9 => nomatch h9) (fun _ h9 => nomatch h9) d1 d2 dN dI dA hdg hi0 hN1 hN4 (by omega) (by omega) hlen2 eM ?_ ?_ ?_ ?_
      · omega
      · show dp + 1 + (k - k / 2) < recursionLimit
        omega
      · show un + 3 + 8 * (k - k / 2) < cLine
        omega
      intro t1 h1 tk1 F1 N1 Nz
      clear Nz
      (try dsimp only)
      k_sweep
      k_steps
      have I2 := ih (k / 2) (by omega)
      refine I2.out (rest := []) N lo (by k_asm) (by k_asm) (by k_asm) (by k_asm) CH rfl (by k_asm) (fun _ h9 => nomatch h9) (fun _ h9 => nomatch h9) d1 d2 dN dI dA hdg hi0 hN1 hN4 (by omega) (by omega) hlen2 eli eM ?_ ?_ ?_
      · show dp + 1 + k / 2 < recursionLimit
        omega
      · show un + 3 + 8 * (k / 2) < cLine
        omega
      intro t2 h2 tk2 F2 N2 Nz
      clear Nz
      (try dsimp only)
      k_sweep
      k_steps
      have e9 := vsl_split N ns lo (k / 2) (k - k / 2) (by omega)
      have e8 : k / 2 + (k - k / 2) = k := by omega
      rw [e8] at e9
      rw [eS, Int.toNat_natCast, ← e9]
      exact ret _ _ _ (by assumption) (by assumption) (News.over NRg (Fr.keep (by assumption)))
end Mine
end

section
open PySem PySem.W PyProof.Rows PySem.Calls PySem.Spec
set_option Elab.async false
set_option maxRecDepth 100000
set_option maxHeartbeats 1000000
namespace Mine
/-- the table of codes that a def which makes a def keeps: still empty, or with its one code -/
def TS (P : Addr) (line col : Nat) (q : Str) (ps : Array Value) (x : Addr) (o : Obj) : Prop :=
  (ps = #[] ∧ x = P ∧ o = tabObj #[]) ∨ (ps = #[rawInt line, rawInt col, .ref x] ∧ x ≠ P ∧ ∃ cvs ct, o.data = .fields cvs ∧ (cvs : Array Value)[1]? = some (.str q ct))
def q1 : Str := (Str.ofString "_int2digits" ++ (".<locals>." : Str)) ++ Str.ofString "inner"
def q2 : Str := (Str.ofString "_digits2int" ++ (".<locals>." : Str)) ++ Str.ofString "inner"

theorem ints_rep (t : Tok) : ∀ k : Nat, IntsAre (List.replicate k (Value.int 0 t)) (List.replicate k 0)
  | 0 => .nil
  | k + 1 => .cons 0 t (ints_rep t k)
theorem flat_rep {α : Type} (v : α) : ∀ k : Nat, (List.replicate k [v]).flatten = List.replicate k v
  | 0 => rfl
  | k + 1 => by rw [List.replicate_succ, List.flatten_cons, flat_rep v k, List.replicate_succ]; rfl
def nDig (N a : Nat) : Nat := (Builtin.Int.intBits (a : Int) + N - 1) / N
theorem nDig_is {N a : Nat} (h : 1 ≤ N) : (((Builtin.Int.intBits (a : Int) : Nat) : Int) + (N : Int) - 1).fdiv (N : Int) = ((nDig N a : Nat) : Int) := by
  rw [Int.fdiv_eq_ediv_of_nonneg _ (by omega), nDig]
  have e : ((Builtin.Int.intBits (a : Int) : Nat) : Int) + (N : Int) - 1 = ((Builtin.Int.intBits (a : Int) + N - 1 : Nat) : Int) := by omega
  rw [e, Int.natCast_ediv]
theorem bits_self (a : Nat) : a < 2 ^ Builtin.Int.intBits (a : Int) := by
  have h := (intBits_le_iff (m := Builtin.Int.intBits (a : Int)) (x := (a : Int))).mp (Nat.le_refl _)
  simpa using h
theorem nDig_ub {N a : Nat} (h : 1 ≤ N) : a < 2 ^ (N * nDig N a) := by
  refine Nat.lt_of_lt_of_le (bits_self a) (Nat.pow_le_pow_right (by decide) ?_)
  have h1 := Nat.div_add_mod (Builtin.Int.intBits (a : Int) + N - 1) N
  have h2 := Nat.mod_lt (Builtin.Int.intBits (a : Int) + N - 1) (show N > 0 by omega)
  unfold nDig
  omega
theorem nDig_le {N a : Nat} (h : 1 ≤ N) (ha : a < 4096) : nDig N a ≤ 12 := by
  have hb : Builtin.Int.intBits (a : Int) ≤ 12 := bits_lt (b := 12) ha
  unfold nDig
  rcases Nat.lt_or_ge (Builtin.Int.intBits (a : Int)) 1 with h0 | h0
  · refine Nat.le_trans (Nat.div_le_of_le_mul (k := N) (n := 1) ?_) (by decide)
    omega
  · refine Nat.le_trans (Nat.div_le_div_right (b := Builtin.Int.intBits (a : Int) * N) ?_) ?_
    · have h3 : ∀ b n : Nat, 1 ≤ b → 1 ≤ n → b + n - 1 ≤ b * n := by
        intro b n hb hn
        obtain ⟨b', rfl⟩ : ∃ b', b = b' + 1 := ⟨b - 1, by omega⟩
        obtain ⟨n', rfl⟩ : ∃ n', n = n' + 1 := ⟨n - 1, by omega⟩
        rw [Nat.add_mul, Nat.one_mul, Nat.mul_add, Nat.mul_one]
        omega
      exact h3 _ _ h0 h
    · rw [Nat.mul_div_cancel _ (by omega)]
      exact hb
theorem nDig_pos {N a : Nat} (h : 1 ≤ N) (ha : a ≠ 0) : 1 ≤ nDig N a := by
  have h1 := bits_self a
  have hb : 1 ≤ Builtin.Int.intBits (a : Int) := by
    rcases Nat.lt_or_ge (Builtin.Int.intBits (a : Int)) 1 with h0 | h0
    · have e : Builtin.Int.intBits (a : Int) = 0 := by omega
      rw [e] at h1
      omega
    · exact h0
  unfold nDig
  exact (Nat.le_div_iff_mul_le (by omega)).mpr (by omega)
theorem nDig_zero {N : Nat} (h : 1 ≤ N) : nDig N 0 = 0 := by
  have e : Builtin.Int.intBits ((0 : Nat) : Int) = 0 := rfl
  unfold nDig
  rw [e]
  exact Nat.div_eq_of_lt (by omega)

theorem c_i2d {w : World} {dp un : Nat} {gd : Option (List Code)} {cn : Str} {cs : Scope} {a' : Addr} {ccd : Value} {cl : List (Str × Addr)} {outer : List Env} {A₀ : Around} {base h₀ : Heap} {L : Addr} {m : Str → Option Value} {s : Shared} {Q E : Value → Shared → Prop}
  {p : Program} {loose : List Str} {mean : ExcName → Option Value} {mg mb : Str → Option Value} {ps : Array Value} {x : Addr} {o : Obj} {rest : List (Addr × Obj)} {ai ni : Int} {ta tn : Tok} (a N : Nat)
  (B : Below A₀ base outer h₀) (F : Fr h₀ L s.heap m) (X : (hd.heap_39 w.params).In h₀) (T : Top p loose mean mg mb h₀) (CH : CodeHd base 48 44) (hk : cs.kind = .function)
  (N0 : News h₀ L s.heap [(44, tabObj ps), (x, o)]) (hts : TS 44 50 4 q1 ps x o) (NR : News h₀ L s.heap rest) (hR : ∀ q ∈ rest, q.1 ≠ 44 ∧ q.1 ≠ x)
  (eai : ai = (a : Int)) (eni : ni = (N : Int)) (ha : a < 4096) (hN1 : 1 ≤ N) (hN4 : N ≤ 4)
  (hdp : dp + 16 < recursionLimit) (hun : un + 128 < cLine)
  (ret : ∀ (l : Addr) (vs : List Value) (nn : Nat) (ps' : Array Value) (x' : Addr) (o' : Obj) (h' : Heap) (tk' : Nat), Fr h₀ L h' m → News h₀ L h' [(l, W.listOf vs.toArray nn), (44, tabObj ps'), (x', o')] → TS 44 50 4 q1 ps' x' o' → News h₀ L h' rest →
    44 < l → x' ≠ l → (∀ q ∈ rest, q.1 < l) → (∀ q ∈ rest, q.1 ≠ x') → IntsAre vs (digs N (nDig N a) a) → Q (.ref l) { s with heap := h', toks := tk' }) :
  wpAny (model PySem.Challenge.rw_hz0003_01.row.prog w) (ktrTop dp un gd cn cs L a' ccd cl outer) (call (.ref 49) [.int ai ta, .int ni tn]) Q E s := by
  revert X; k_fill; intro X
  subst eai eni
  have eD := nDig_is (N := N) (a := a) hN1
  have hD12 := nDig_le (N := N) (a := a) hN1 ha
  rcases hts with ⟨rfl, rfl, rfl⟩ | ⟨rfl, hx44, cvs, ct, d1, d2⟩
  · refine wpAny_call ?_
    have N1 : News h₀ L s.heap [(44, tabObj #[])] := News.drop N0 (by simp)
    clear N0
    k_dflt (refine' callRC ?k1 ?k2 ?k3 ?k4 ?kr ?ko ?k5 ?kA ?kF ?kK ?k6 ?k7 ?k8 ?k9 ?kB ?kD ?_ ?c2 ?c3 ?c4; (case kA => exact rfl); (case kF => exact rfl); (case kK => exact hk); (case k1 => exact B); (case k2 => exact F); (case k3 => exact X); (case k4 => exact N1); (case kr => exact NR); (case ko => (intro q hq; simp; exact (hR q hq).1)); (case k5 => exact T); (case k6 => k_is); (case k7 => k_is); (case k8 => (show dp < recursionLimit; omega)); (case k9 => exact BindsTo.of_eq rfl); (case kB => exact rfl); (case kD => decide +kernel); (case c2 => exact rfl); (case c3 => exact rfl); (case c4 => exact rfl); k_whole)
    intro g' L' h' tk' cells' FG' F' N' Y' NRg B' X' T' l1 l2
    k_lt l1
    k_cells Y'
    (try simp only [List.cons_append, List.nil_append] at N')
    (try dsimp only); (try k_lift B'); (try k_fold)
    clear N1 NR
    k_steps
    · rename 0 ≤ _ → _ => e3
      rename List.length _ = _ => e1
      have hD := e3 (by omega)
      rw [eD] at hD
      refine (in1 (w := w) (by k_is) (nDig N a)).out (rest := [(44, _)]) N 0 a (by k_asm) (by k_asm) (by k_asm) (by k_asm) CH rfl (News.drop (by k_asm) (by k_allIn)) (News.drop (by k_asm) (by k_allIn)) ?_ (by k_asm) (by k_asm) (by k_asm) (by k_asm) (by k_asm) ?_ (by k_asm) hN1 hN4 (nDig_pos hN1 (by omega)) (by rw [e1]; omega) (by rw [e1]; omega) (nDig_ub hN1) rfl rfl ?_ ?_ ?_ ?_
      · refine List.forall_mem_cons.mpr ⟨?_, List.forall_mem_nil _⟩
        refine ⟨?_, ?_, ?_, ?_, ?_, ?_⟩ <;> k_ne
      · refine ⟨?_, ?_, ?_, ?_, ?_⟩ <;> k_ne
      · omega
      · show dp + 1 + nDig N a < recursionLimit
        omega
      · show un + 3 + 8 * nDig N a < cLine
        omega
      intro vs' h9 tk9 F9 N9 NR9 hi9
      have N8 := News.app N9 NR9
      clear N9 NR9
      simp only [led1, List.cons_append, List.nil_append] at N8
      rw [eD, Int.toNat_natCast, flat_rep] at hi9
      have hi8 := setD_rep N (nDig N a) [] a
      simp only [List.nil_append, List.length_nil] at hi8
      rw [hi8] at hi9
      (try dsimp only)
      k_sweep
      k_steps
      rename Obj.data _ = Data.fields _ => d1c
      refine ret _ vs' _ _ _ _ _ _ (by assumption) (News.drop (by assumption) (by k_allIn)) (Or.inr ⟨by rfl, by k_ne, _, _, d1c, by assumption⟩) (News.over NRg (Fr.keep (by assumption))) (by (refine ltN ?_; omega)) (by k_ne) ?_ ?_ hi9
      · intro q hq
        have h8 := ltN (l2 q hq)
        refine ltN ?_
        omega
      · intro q hq
        have h8 := ltN (l2 q hq)
        refine neN ?_
        omega
    · rename Obj.data _ = Data.fields _ => d1c
      have ha0 : a = 0 := by omega
      subst ha0
      rename IntsAre _ _ => i1
      rw [eD, nDig_zero hN1] at i1
      have hz : digs N (nDig N 0) 0 = [] := by rw [nDig_zero hN1]; rfl
      refine ret _ _ _ _ _ _ _ _ (by assumption) (News.drop (by assumption) (by k_allIn)) (Or.inr ⟨by rfl, by k_ne, _, _, d1c, by assumption⟩) (News.over NRg (Fr.keep (by assumption))) (by (refine ltN ?_; omega)) (by k_ne) ?_ ?_ ?_
      · intro q hq
        have h8 := ltN (l2 q hq)
        refine ltN ?_
        omega
      · intro q hq
        have h8 := ltN (l2 q hq)
        refine neN ?_
        omega
      · rw [hz, eD, nDig_zero hN1]
        exact i1
  · refine wpAny_call ?_
    have N1 := N0
    clear N0
    have hx44' := neN hx44
    k_dflt (refine' callRC ?k1 ?k2 ?k3 ?k4 ?kr ?ko ?k5 ?kA ?kF ?kK ?k6 ?k7 ?k8 ?k9 ?kB ?kD ?_ ?c2 ?c3 ?c4; (case kA => exact rfl); (case kF => exact rfl); (case kK => exact hk); (case k1 => exact B); (case k2 => exact F); (case k3 => exact X); (case k4 => exact N1); (case kr => exact NR); (case ko => (intro q hq; simp; exact hR q hq)); (case k5 => exact T); (case k6 => k_is); (case k7 => k_is); (case k8 => (show dp < recursionLimit; omega)); (case k9 => exact BindsTo.of_eq rfl); (case kB => exact rfl); (case kD => decide +kernel); (case c2 => exact rfl); (case c3 => exact rfl); (case c4 => exact rfl); k_whole)
    intro g' L' h' tk' cells' FG' F' N' Y' NRg B' X' T' l1 l2
    k_lt l1
    k_cells Y'
    (try simp only [List.cons_append, List.nil_append] at N')
    (try dsimp only); (try k_lift B'); (try k_fold)
    clear N1 NR
    k_steps
    · rename 0 ≤ _ → _ => e3
      rename List.length _ = _ => e1
      have hD := e3 (by omega)
      rw [eD] at hD
      refine (in1 (w := w) (by k_is) (nDig N a)).out (rest := [(44, _)]) N 0 a (by k_asm) (by k_asm) (by k_asm) (by k_asm) CH rfl (News.drop (by k_asm) (by k_allIn)) (News.drop (by k_asm) (by k_allIn)) ?_ (by k_asm) (by k_asm) (by k_asm) (by k_asm) (by k_asm) ?_ (by k_asm) hN1 hN4 (nDig_pos hN1 (by omega)) (by rw [e1]; omega) (by rw [e1]; omega) (nDig_ub hN1) rfl rfl ?_ ?_ ?_ ?_
      · refine List.forall_mem_cons.mpr ⟨?_, List.forall_mem_nil _⟩
        refine ⟨?_, ?_, ?_, ?_, ?_, ?_⟩ <;> k_ne
      · refine ⟨?_, ?_, ?_, ?_, ?_⟩ <;> k_ne
      · omega
      · show dp + 1 + nDig N a < recursionLimit
        omega
      · show un + 3 + 8 * nDig N a < cLine
        omega
      intro vs' h9 tk9 F9 N9 NR9 hi9
      have N8 := News.app N9 NR9
      clear N9 NR9
      simp only [led1, List.cons_append, List.nil_append] at N8
      rw [eD, Int.toNat_natCast, flat_rep] at hi9
      have hi8 := setD_rep N (nDig N a) [] a
      simp only [List.nil_append, List.length_nil] at hi8
      rw [hi8] at hi9
      (try dsimp only)
      k_sweep
      k_steps
      refine ret _ vs' _ _ _ _ _ _ (by assumption) (News.drop (by assumption) (by k_allIn)) (Or.inr ⟨rfl, hx44, _, _, d1, d2⟩) (News.over NRg (Fr.keep (by assumption))) (by (refine ltN ?_; omega)) (by k_ne) ?_ ?_ hi9
      · intro q hq
        have h8 := ltN (l2 q hq)
        refine ltN ?_
        omega
      · intro q hq
        exact (hR q hq).2
    · have ha0 : a = 0 := by omega
      subst ha0
      rename IntsAre _ _ => i1
      rw [eD, nDig_zero hN1] at i1
      have hz : digs N (nDig N 0) 0 = [] := by rw [nDig_zero hN1]; rfl
      refine ret _ _ _ _ _ _ _ _ (by assumption) (News.drop (by assumption) (by k_allIn)) (Or.inr ⟨rfl, hx44, _, _, d1, d2⟩) (News.over NRg (Fr.keep (by assumption))) (by (refine ltN ?_; omega)) (by k_ne) ?_ ?_ ?_
      · intro q hq
        have h8 := ltN (l2 q hq)
        refine ltN ?_
        omega
      · intro q hq
        exact (hR q hq).2
      · rw [hz, eD, nDig_zero hN1]
        exact i1
end Mine
end

section
open PySem PySem.W PyProof.Rows PySem.Calls PySem.Spec
set_option Elab.async false
set_option maxRecDepth 100000
set_option maxHeartbeats 1000000
namespace Mine
theorem c_d2i {w : World} {dp un : Nat} {gd : Option (List Code)} {cn : Str} {cs : Scope} {a' : Addr} {ccd : Value} {cl : List (Str × Addr)} {outer : List Env} {A₀ : Around} {base h₀ : Heap} {L : Addr} {m : Str → Option Value} {s : Shared} {Q E : Value → Shared → Prop}
  {p : Program} {loose : List Str} {mean : ExcName → Option Value} {mg mb : Str → Option Value} {l : Addr} {vs : List Value} {ns : List Int} {nn : Nat} {ps : Array Value} {x : Addr} {o : Obj} {rest : List (Addr × Obj)} {ni : Int} {tn : Tok} (N : Nat)
  (B : Below A₀ base outer h₀) (F : Fr h₀ L s.heap m) (X : (hd.heap_39 w.params).In h₀) (T : Top p loose mean mg mb h₀) (CH : CodeHd base 55 51) (hk : cs.kind = .function)
  (N0 : News h₀ L s.heap [(l, W.listOf vs.toArray nn), (51, tabObj ps), (x, o)]) (hts : TS 51 65 4 q2 ps x o) (NR : News h₀ L s.heap rest) (hR : ∀ q ∈ rest, q.1 ≠ l ∧ q.1 ≠ 51 ∧ q.1 ≠ x)
  (hl51 : l ≠ 51) (hxl : x ≠ l) (hi : IntsAre vs ns) (hdg : ∀ d ∈ ns, 0 ≤ d ∧ d < 2 ^ N) (hlen : ns.length ≤ 20)
  (eni : ni = (N : Int)) (hN1 : 1 ≤ N) (hN4 : N ≤ 4)
  (hdp : dp + 24 < recursionLimit) (hun : un + 192 < cLine)
  (ret : ∀ (t : Tok) (ps' : Array Value) (x' : Addr) (o' : Obj) (h' : Heap) (tk' : Nat), Fr h₀ L h' m → News h₀ L h' [(l, W.listOf vs.toArray nn), (51, tabObj ps'), (x', o')] → TS 51 65 4 q2 ps' x' o' → News h₀ L h' rest →
    x' ≠ l → (∀ q ∈ rest, q.1 ≠ x') → Q (.int (val N ns) t) { s with heap := h', toks := tk' }) :
  wpAny (model PySem.Challenge.rw_hz0003_01.row.prog w) (ktrTop dp un gd cn cs L a' ccd cl outer) (call (.ref 56) [.ref l, .int ni tn]) Q E s := by
  revert X; k_fill; intro X
  subst eni
  have hl51' := neN hl51
  have hxl' := neN hxl
  rcases hts with ⟨rfl, rfl, rfl⟩ | ⟨rfl, hx51, cvs, ct, d1, d2⟩
  · refine wpAny_call ?_
    have N1 : News h₀ L s.heap [(l, W.listOf vs.toArray nn), (51, tabObj #[])] := News.drop N0 (by k_allIn)
    clear N0
    k_dflt (refine' callRC ?k1 ?k2 ?k3 ?k4 ?kr ?ko ?k5 ?kA ?kF ?kK ?k6 ?k7 ?k8 ?k9 ?kB ?kD ?_ ?c2 ?c3 ?c4; (case kA => exact rfl); (case kF => exact rfl); (case kK => exact hk); (case k1 => exact B); (case k2 => exact F); (case k3 => exact X); (case k4 => exact N1); (case kr => exact NR); (case ko => (intro q hq; simp; exact ⟨(hR q hq).1, (hR q hq).2.1⟩)); (case k5 => exact T); (case k6 => k_is); (case k7 => k_is); (case k8 => (show dp < recursionLimit; omega)); (case k9 => exact BindsTo.of_eq rfl); (case kB => exact rfl); (case kD => decide +kernel); (case c2 => exact rfl); (case c3 => exact rfl); (case c4 => exact rfl); k_whole)
    intro g' L' h' tk' cells' FG' F' N' Y' NRg B' X' T' l1 l2
    k_lt l1
    k_cells Y'
    (try simp only [List.cons_append, List.nil_append] at N')
    (try dsimp only); (try k_lift B'); (try k_fold)
    clear N1 NR
    k_steps
    · refine (in2 (w := w) (by k_is) ns.length).out (rest := [(51, _)]) N 0 (by k_asm) (by k_asm) (by k_asm) (by k_asm) CH rfl (News.drop (by k_asm) (by k_allIn)) (News.drop (by k_asm) (by k_allIn)) ?_ (by k_asm) (by k_asm) (by k_asm) (by k_asm) (by k_asm) hdg (by k_asm) hN1 hN4 (by omega) (by omega) hlen rfl ?_ ?_ ?_ ?_
      · refine List.forall_mem_cons.mpr ⟨?_, List.forall_mem_nil _⟩
        refine ⟨?_, ?_, ?_, ?_, ?_, ?_⟩ <;> k_ne
      · omega
      · show dp + 1 + ns.length < recursionLimit
        omega
      · show un + 3 + 8 * ns.length < cLine
        omega
      intro t9 h9 tk9 F9 N9 NR9
      have N8 := News.app N9 NR9
      clear N9 NR9
      simp only [led1, List.cons_append, List.nil_append] at N8
      rw [vsl_all]
      (try dsimp only)
      k_sweep
      k_steps
      rename Obj.data _ = Data.fields _ => d1c
      refine ret _ _ _ _ _ _ (by assumption) (News.drop (by assumption) (by k_allIn)) (Or.inr ⟨by rfl, by k_ne, _, _, d1c, by assumption⟩) (News.over NRg (Fr.keep (by assumption))) (by k_ne) ?_
      intro q hq
      have h8 := ltN (l2 q hq)
      refine neN ?_
      omega
    · rename Obj.data _ = Data.fields _ => d1c
      have hz : ns = [] := by
        cases ns with
        | nil => rfl
        | cons a r => simp at *
      subst hz
      refine ret _ _ _ _ _ _ (by assumption) (News.drop (by assumption) (by k_allIn)) (Or.inr ⟨by rfl, by k_ne, _, _, d1c, by assumption⟩) (News.over NRg (Fr.keep (by assumption))) (by k_ne) ?_
      intro q hq
      have h8 := ltN (l2 q hq)
      refine neN ?_
      omega
  · refine wpAny_call ?_
    have N1 := N0
    clear N0
    have hx51' := neN hx51
    k_dflt (refine' callRC ?k1 ?k2 ?k3 ?k4 ?kr ?ko ?k5 ?kA ?kF ?kK ?k6 ?k7 ?k8 ?k9 ?kB ?kD ?_ ?c2 ?c3 ?c4; (case kA => exact rfl); (case kF => exact rfl); (case kK => exact hk); (case k1 => exact B); (case k2 => exact F); (case k3 => exact X); (case k4 => exact N1); (case kr => exact NR); (case ko => (intro q hq; simp; exact hR q hq)); (case k5 => exact T); (case k6 => k_is); (case k7 => k_is); (case k8 => (show dp < recursionLimit; omega)); (case k9 => exact BindsTo.of_eq rfl); (case kB => exact rfl); (case kD => decide +kernel); (case c2 => exact rfl); (case c3 => exact rfl); (case c4 => exact rfl); k_whole)
    intro g' L' h' tk' cells' FG' F' N' Y' NRg B' X' T' l1 l2
    k_lt l1
    k_cells Y'
    (try simp only [List.cons_append, List.nil_append] at N')
    (try dsimp only); (try k_lift B'); (try k_fold)
    clear N1 NR
    k_steps
    · refine (in2 (w := w) (by k_is) ns.length).out (rest := [(51, _)]) N 0 (by k_asm) (by k_asm) (by k_asm) (by k_asm) CH rfl (News.drop (by k_asm) (by k_allIn)) (News.drop (by k_asm) (by k_allIn)) ?_ (by k_asm) (by k_asm) (by k_asm) (by k_asm) (by k_asm) hdg (by k_asm) hN1 hN4 (by omega) (by omega) hlen rfl ?_ ?_ ?_ ?_
      · refine List.forall_mem_cons.mpr ⟨?_, List.forall_mem_nil _⟩
        refine ⟨?_, ?_, ?_, ?_, ?_, ?_⟩ <;> k_ne
      · omega
      · show dp + 1 + ns.length < recursionLimit
        omega
      · show un + 3 + 8 * ns.length < cLine
        omega
      intro t9 h9 tk9 F9 N9 NR9
      have N8 := News.app N9 NR9
      clear N9 NR9
      simp only [led1, List.cons_append, List.nil_append] at N8
      rw [vsl_all]
      (try dsimp only)
      k_sweep
      k_steps
      refine ret _ _ _ _ _ _ (by assumption) (News.drop (by assumption) (by k_allIn)) (Or.inr ⟨rfl, hx51, _, _, d1, d2⟩) (News.over NRg (Fr.keep (by assumption))) (by k_ne) ?_
      intro q hq
      have h8 := ltN (l2 q hq)
      exact (hR q hq).2.2
    · have hz : ns = [] := by
        cases ns with
        | nil => rfl
        | cons a r => simp at *
      subst hz
      refine ret _ _ _ _ _ _ (by assumption) (News.drop (by assumption) (by k_allIn)) (Or.inr ⟨rfl, hx51, _, _, d1, d2⟩) (News.over NRg (Fr.keep (by assumption))) (by k_ne) ?_
      intro q hq
      have h8 := ltN (l2 q hq)
      exact (hR q hq).2.2
end Mine
end

section
open PySem PySem.W PyProof.Rows PySem.Calls PySem.Spec
set_option Elab.async false
set_option maxRecDepth 100000
set_option maxHeartbeats 1000000
namespace Mine
/-- a goal set aside: the walk stops here -/
structure Hold (P : Prop) : Prop where
  out : P
theorem hold_at {P : Prop} (h : Hold P) : P := h.out

/-- the end of a turn: any ledger off the iterator, told by J -/
def RvEnd (h₀ : Heap) (L : Addr) (s₁ : Shared) (I : Addr) (it : Obj) (J : (Str → Option Value) → List (Addr × Obj) → Prop) (s₂ : Shared) : Prop :=
  ∃ h' tk m' news', s₂ = { s₁ with heap := h', toks := tk } ∧ Fr h₀ L h' m' ∧ News h₀ L h' ((I, it) :: news') ∧ (∀ q ∈ news', q.1 ≠ I) ∧ J m' news'
def RvPost (h₀ : Heap) (L : Addr) (s₁ : Shared) (I : Addr) (it : Obj) (J : (Str → Option Value) → List (Addr × Obj) → Prop) (Q : Flow → Shared → Prop) (f : Flow) (s₂ : Shared) : Prop :=
  match f with
  | .ret v => Q (.ret v) s₂
  | .brk => Q .next s₂
  | _ => RvEnd h₀ L s₁ I it J s₂
theorem RvPost.unr {h₀ : Heap} {L I : Addr} {it : Obj} {s₁ s₂ : Shared} {J J' : (Str → Option Value) → List (Addr × Obj) → Prop} {Q : Flow → Shared → Prop} {f : Flow} (hJ : ∀ m n, J m n → J' m n) (h : RvPost h₀ L s₁ I it J Q f s₂) : UnrPost h₀ L s₁ I it J' Q f s₂ := by
  have fin : RvEnd h₀ L s₁ I it J s₂ → UnrEnd h₀ L s₁ I it J' s₂ := by
    rintro ⟨h', tk, m', news', e, F, N, ho, j⟩
    exact ⟨h', tk, m', news', e, F, N, ho, hJ _ _ j⟩
  cases f with
  | ret v => exact h
  | brk => exact h
  | next => exact fin h
  | cont => exact fin h
theorem RvEnd.mk' {h₀ : Heap} {L : Addr} {I : Addr} {it : Obj} {J : (Str → Option Value) → List (Addr × Obj) → Prop} {s₁ : Shared} {h' : Heap} {tk : Nat} {m' : Str → Option Value} (news' : List (Addr × Obj)) {all : List (Addr × Obj)}
    (F : Fr h₀ L h' m') (N : News h₀ L h' all) (hs : ∀ q ∈ (I, it) :: news', q ∈ all) (ho : ∀ q ∈ news', q.1 ≠ I) (j : J m' news') : RvEnd h₀ L s₁ I it J { s₁ with heap := h', toks := tk } :=
  ⟨h', tk, m', news', rfl, F, fun q hq => N q (hs q hq), ho, j⟩

section
variable {prog : Program} {w : World} {A : Around} {E : Value → Shared → Prop} {s : Shared} {env : Env} {h₀ : Heap} {x : Str} {body : List Stmt} {Q : Flow → Shared → Prop}
theorem rev_rest {I : Addr} {lp : Addr × Obj} (J : List Value → (Str → Option Value) → List (Addr × Obj) → Prop)
    (turn : ∀ v r m news it h tk, J (v :: r) m news → it.cls = .type "list_reverseiterator" → Fr h₀ env.locals h (fun y => if y = x then some v else m y) → News h₀ env.locals h ((I, it) :: news) →
      wpAny (model prog w) A (execs body env) (RvPost h₀ env.locals { s with heap := h, toks := tk } I it (fun m' n' => lp ∈ n' ∧ J r m' n') Q) E { s with heap := h, toks := tk })
    (done : ∀ m news h tk, J [] m news → Fr h₀ env.locals h m → News h₀ env.locals h news → Q .next { s with heap := h, toks := tk }) :
    ∀ r m news, J r m news → RevRest prog w A E h₀ env x body Q s I lp r m news
  | [], m, news, j => RevRest.zero fun h tk F N => done m news h tk j F N
  | v :: r, m, news, j => RevRest.succ fun it h tk hc F N => wpAny_mono (turn v r m news it h tk j hc F N) (fun _ _ p => RvPost.unr (fun m' n' q => ⟨q.1, rev_rest J turn done r m' n' q.2⟩) p) fun _ _ e => e

theorem rev_inv {ax I : Addr} {lo : Obj} {vs : List Value} {nn : Nat} {m₀ : Str → Option Value} {news : List (Addr × Obj)} (J : List Value → (Str → Option Value) → List (Addr × Obj) → Prop)
    (hh : A.handled = none) (F : Fr h₀ env.locals s.heap m₀) (N : News h₀ env.locals s.heap ((I, revObj ax ((vs.length : Int) - 1)) :: news)) (hof : OffI I (revObj ax ((vs.length : Int) - 1)) news) (hm : (ax, lo) ∈ news) (hc : lo.cls = .type "list") (hd : lo.data = .seq vs.toArray nn)
    (hj : J vs.reverse m₀ news)
    (turn : ∀ v r m news it h tk, J (v :: r) m news → it.cls = .type "list_reverseiterator" → Fr h₀ env.locals h (fun y => if y = x then some v else m y) → News h₀ env.locals h ((I, it) :: news) →
      wpAny (model prog w) A (execs body env) (RvPost h₀ env.locals { s with heap := h, toks := tk } I it (fun m' n' => (ax, lo) ∈ n' ∧ J r m' n') Q) E { s with heap := h, toks := tk })
    (done : ∀ m news h tk, J [] m news → Fr h₀ env.locals h m → News h₀ env.locals h news → Q .next { s with heap := h, toks := tk }) :
    wpAny (model prog w) A (pyIter (.ref I)) (fun it s₂ => LoopAtV prog w A h₀ env x body Q E it s₂) E s :=
  iter_revUnr hh F N hof hm hc hd (rev_rest J turn done _ _ _ hj)

theorem krs_rest {I : Addr} {a c : Int} {n : Nat} (J : Nat → (Str → Option Value) → List (Addr × Obj) → Prop)
    (turn : ∀ i m news it t h tk, i < n → J i m news → it.cls = .type "range_iterator" → Fr h₀ env.locals h (fun y => if y = x then some (.int (a + (i : Int) * c) t) else m y) → News h₀ env.locals h ((I, it) :: news) →
      wpAny (model prog w) A (execs body env) (RvPost h₀ env.locals { s with heap := h, toks := tk } I it (J (i + 1)) Q) E { s with heap := h, toks := tk })
    (done : ∀ m news h tk, J n m news → Fr h₀ env.locals h m → News h₀ env.locals h news → Q .next { s with heap := h, toks := tk }) :
    ∀ k i m news, i + k = n → J i m news → KrsRest prog w A E h₀ env x body Q s I a c n k i m news
  | 0, i, m, news, e, j => KrsRest.zero fun h tk F N => done m news h tk (by rw [← e]; exact j) F N
  | k + 1, i, m, news, e, j => KrsRest.succ rfl fun t h tk F N => wpAny_mono (turn i m news _ t h tk (by omega) j rfl F N) (fun _ _ p => RvPost.unr (fun m' n' q => krs_rest J turn done k (i + 1) m' n' (by omega) q) p) fun _ _ e => e

theorem krs_inv {r : Addr} {a₀ b₀ c : Int} {t₀ u₀ v₀ : Tok} {n : Nat} {m₀ : Str → Option Value} {news : List (Addr × Obj)} (J : Addr → Nat → (Str → Option Value) → List (Addr × Obj) → Prop)
    (hh : A.handled = none) (hr : IsRange s.heap r a₀ b₀ c t₀ u₀ v₀) (hsmall : Builtin.Range.small a₀ b₀ c = true) (hn : Builtin.Range.rangeSize a₀ b₀ c = (n : Int)) (F : Fr h₀ env.locals s.heap m₀) (N : News h₀ env.locals s.heap news)
    (hj : ∀ I : Addr, (∀ q ∈ news, q.1 < I) → J I 0 m₀ news)
    (turn : ∀ (I : Addr) i m news₁ it t h tk, i < n → J I i m news₁ → it.cls = .type "range_iterator" → Fr h₀ env.locals h (fun y => if y = x then some (.int (a₀ + (i : Int) * c) t) else m y) → News h₀ env.locals h ((I, it) :: news₁) →
      wpAny (model prog w) A (execs body env) (RvPost h₀ env.locals { s with heap := h, toks := tk } I it (J I (i + 1)) Q) E { s with heap := h, toks := tk })
    (done : ∀ (I : Addr) m news h tk, J I n m news → Fr h₀ env.locals h m → News h₀ env.locals h news → Q .next { s with heap := h, toks := tk }) :
    wpAny (model prog w) A (pyIter (.ref r)) (fun it s₂ => LoopAtV prog w A h₀ env x body Q E it s₂) E s :=
  krs_iter hh hr hsmall hn F N fun I hI => krs_rest (J I) (turn I) (done I) n 0 _ _ (Nat.zero_add n) (hj I hI)
end

/-- what a turn leaves of the names that it does not store -/
def Keeps (stored : List Str) (m₀ m : Str → Option Value) : Prop := ∀ z, stored.contains z = false → m z = m₀ z
theorem keeps_refl {stored : List Str} {m : Str → Option Value} : Keeps stored m m := fun _ _ => rfl
theorem fr_at {h₀ h : Heap} {L : Addr} {x : Str} {ps : List (Str × Value)} {stored : List Str} {m₀ m₁ : Str → Option Value} {v : Value} (h1 : ∀ q ∈ ps, m₁ q.1 = some q.2) (h2 : Keeps stored m₀ m₁)
    (F : Fr h₀ L h (fun y => if y = x then some v else m₁ y)) : Fr h₀ L h (fun y => if y = x then some v else kstB (fun z => if stored.contains z then m₁ z else m₀ z) ps y) :=
  kst_fr h1 (fun z _ _ hz => h2 z hz) F
theorem fr_out {h₀ h : Heap} {L : Addr} {ps : List (Str × Value)} {stored : List Str} {m₀ m₁ : Str → Option Value} (h1 : ∀ q ∈ ps, m₁ q.1 = some q.2) (h2 : Keeps stored m₀ m₁)
    (F : Fr h₀ L h m₁) : Fr h₀ L h (kstB (fun z => if stored.contains z then m₁ z else m₀ z) ps) := by
  have e : kstB (fun z => if stored.contains z then m₁ z else m₀ z) ps = m₁ := by
    funext z
    refine kstB_eq h1 fun _ => ?_
    show (if stored.contains z = true then m₁ z else m₀ z) = m₁ z
    cases h3 : stored.contains z with
    | true => simp
    | false => simp only [Bool.false_eq_true, if_false]; exact (h2 z h3).symm
  rw [e]
  exact F
theorem fr_ps {h₀ h : Heap} {L : Addr} {x : Str} {m₁ : Str → Option Value} {v : Value} (ps : List (Str × Value)) (h1 : ∀ q ∈ ps, m₁ q.1 = some q.2)
    (F : Fr h₀ L h (fun y => if y = x then some v else m₁ y)) : Fr h₀ L h (fun y => if y = x then some v else kstB m₁ ps y) := by
  have e : kstB m₁ ps = m₁ := funext fun z => kstB_eq h1 fun _ => rfl
  rw [e]
  exact F
theorem fr_cut {h₀ h : Heap} {L : Addr} {m₁ : Str → Option Value} {P : Prop} (ps : List (Str × Value)) (h1 : ∀ q ∈ ps, m₁ q.1 = some q.2)
    (F : Fr h₀ L h m₁) (k : ∀ m, Fr h₀ L h (kstB m ps) → P) : P := by
  have e : kstB m₁ ps = m₁ := funext fun z => kstB_eq h1 fun _ => rfl
  exact k m₁ (by rw [e]; exact F)
theorem fr_ps0 {h₀ h : Heap} {L : Addr} {m₁ : Str → Option Value} (ps : List (Str × Value)) (h1 : ∀ q ∈ ps, m₁ q.1 = some q.2)
    (F : Fr h₀ L h m₁) : Fr h₀ L h (kstB m₁ ps) := by
  have e : kstB m₁ ps = m₁ := funext fun z => kstB_eq h1 fun _ => rfl
  rw [e]
  exact F
end Mine
end

section
set_option Elab.async false
set_option maxRecDepth 100000
namespace Mine
open PySem PySem.W PyProof.Rows
def horner (n : Nat) (rs : List Int) (v : Int) : Int := rs.foldl (fun acc d => acc * 2 ^ n + d) v
theorem horner_app (n : Nat) (xs : List Int) (d v : Int) : horner n (xs ++ [d]) v = horner n xs v * 2 ^ n + d := by simp [horner]
theorem horner_rev (n : Nat) : ∀ ds : List Int, horner n ds.reverse 0 = val n ds
  | [] => rfl
  | d :: ds => by rw [List.reverse_cons, horner_app, horner_rev n ds, val, Int.mul_comm, Int.add_comm]
theorem step_div {b A d : Int} (n : Nat) (hb : 0 < b) : (A * 2 ^ n + d) / b = (A % b * 2 ^ n + d) / b + 2 ^ n * (A / b) ∧ (A * 2 ^ n + d) % b = (A % b * 2 ^ n + d) % b := by
  have e : A * 2 ^ n + d = (A % b * 2 ^ n + d) + b * (2 ^ n * (A / b)) := by
    have h1 := Int.emod_add_mul_ediv A b
    have h2 : b * (2 ^ n * (A / b)) = b * (A / b) * 2 ^ n := by rw [Int.mul_comm (2 ^ n) (A / b), Int.mul_assoc]
    have h3 : A * 2 ^ n = (A % b) * 2 ^ n + b * (A / b) * 2 ^ n := by rw [← Int.add_mul, h1]
    omega
  rw [e, Int.add_mul_ediv_left _ _ (by omega), Int.add_mul_emod_self_left]
  exact ⟨rfl, rfl⟩
theorem step_bound {b r d : Int} {n : Nat} (hb : 0 < b) (h0 : 0 ≤ r) (h1 : r < b) (hd0 : 0 ≤ d) (hd1 : d < 2 ^ n) : 0 ≤ r * 2 ^ n + d ∧ 0 ≤ (r * 2 ^ n + d) / b ∧ (r * 2 ^ n + d) / b < 2 ^ n := by
  have hp := kbt_pos n
  have a1 : 0 ≤ r * 2 ^ n := Int.mul_nonneg h0 (Int.le_of_lt hp)
  have a2 : (r + 1) * 2 ^ n ≤ b * 2 ^ n := Int.mul_le_mul_of_nonneg_right (by omega) (Int.le_of_lt hp)
  rw [Int.add_mul, Int.one_mul] at a2
  refine ⟨by omega, Int.ediv_nonneg (by omega) (by omega), Int.ediv_lt_of_lt_mul hb ?_⟩
  rw [Int.mul_comm (2 ^ n) b]
  omega
end Mine
end

section
open PySem PySem.W PyProof.Rows PySem.Calls PySem.Spec
set_option Elab.async false
set_option maxRecDepth 100000
set_option maxHeartbeats 1000000
namespace Mine
abbrev tupO (vs : List Value) (n : Nat) : Obj := { cls := .type "tuple", data := .seq vs.toArray n }

theorem c_div2 {w : World} {dp un : Nat} {gd : Option (List Code)} {cn : Str} {cs : Scope} {a' : Addr} {ccd : Value} {cl : List (Str × Addr)} {outer : List Env} {A₀ : Around} {base h₀ : Heap} {L : Addr} {m : Str → Option Value} {news : List (Addr × Obj)} {s : Shared} {Q E : Value → Shared → Prop}
  {p : Program} {loose : List Str} {mean : ExcName → Option Value} {mg mb : Str → Option Value} {a b n : Int} {ta tb tn : Tok}
  (B : Below A₀ base outer h₀) (F : Fr h₀ L s.heap m) (X : (hd.heap_39 w.params).In h₀) (N : News h₀ L s.heap news) (T : Top p loose mean mg mb h₀) (hk : cs.kind = .function)
  (ha : 0 ≤ a) (hb : 0 < b) (hb' : b < 16) (hn : (Builtin.Int.intBits a : Int) - n ≤ 4000)
  (hd' : dp + 1 < recursionLimit) (hu : un + 8 < cLine)
  (ret : ∀ x t1 t2 nn h' tk', Fr h₀ L h' m → News h₀ L h' ((x, tupO [.int (a / b) t1, .int (a % b) t2] nn) :: news) → (∀ q ∈ news, q.1 < x) → Q (.ref x) { s with heap := h', toks := tk' }) :
  wpAny (model PySem.Challenge.rw_hz0003_01.row.prog w) (ktrTop dp un gd cn cs L a' ccd cl outer) (call (.ref 35) [.int a ta, .int b tb, .int n tn]) Q E s := by
  revert X; k_fill; intro X
  refine wpAny_call ?_
  k_dflt (refine' code_def ?k1 ?k2 ?k3 ?k4 ?k5 ?kA ?kF ?kK ?k6 ?k7 ?k8 ?k9 ?kB ?_ ?c2 ?c3 ?c4 ?c5; (case kA => exact rfl); (case kF => exact rfl); (case kK => exact hk); (case k1 => exact B); (case k2 => exact F); (case k3 => exact X); (case k4 => exact N); (case k5 => exact T); (case k6 => k_is); (case k7 => k_is); (case k8 => (show dp < recursionLimit; omega)); (case k9 => exact BindsTo.of_eq rfl); (case c5 => decide); (case kB => exact locs rfl); (case c2 => exact rfl); (case c3 => exact rfl); (case c4 => exact rfl); k_whole)
  intro g' L' h' FG' F' N' B' X' T'
  (try dsimp only); (try k_fold)
  have hN' := N'
  k_steps
  have e1 : a.fdiv b = a / b := Int.fdiv_eq_ediv_of_nonneg _ (by omega)
  have e2 : a.fmod b = a % b := Int.fmod_eq_emod_of_nonneg _ (by omega)
  rename News h₀ L _ _ => kN9
  rw [e1, e2] at kN9
  exact ret _ _ _ _ _ _ (by assumption) kN9 fun q hq => Heap.lt_size (hN' q hq).1

theorem news_apart {h₀ g h : Heap} {L L' : Addr} {news rest : List (Addr × Obj)} (N : News g L' h news) (NR : News h₀ L g rest) : ∀ q ∈ rest, ∀ z ∈ news, q.1 ≠ z.1 := fun q hq z hz e => by
  have h1 := (NR q hq).1
  rw [e, (N z hz).2.2] at h1
  cases h1

theorem ts_sep {h₀ h : Heap} {L : Addr} {p1 p2 : Array Value} {x1 x2 : Addr} {o1 o2 : Obj} (N : News h₀ L h [(44, tabObj p1), (x1, o1), (51, tabObj p2), (x2, o2)]) (t1 : TS 44 50 4 q1 p1 x1 o1) (t2 : TS 51 65 4 q2 p2 x2 o2) : x1 ≠ 51 ∧ x2 ≠ 44 ∧ x1 ≠ x2 := by
  have a1 := (N (44, tabObj p1) (by k_mem)).1
  have a2 := (N (x1, o1) (by k_mem)).1
  have a3 := (N (51, tabObj p2) (by k_mem)).1
  have a4 := (N (x2, o2) (by k_mem)).1
  have nostr : ∀ (ps : Array Value) (P : Addr) (line col : Nat) (q : Str) (x : Addr) (o : Obj), TS P line col q ps x o → ∀ u t, ps[1]? ≠ some (.str u t) := by
    rintro ps P line col q x o (⟨rfl, _⟩ | ⟨rfl, _⟩) u t e
    · simp at e
    · simp [rawInt] at e
  have z1 := nostr _ _ _ _ _ _ _ t1
  have z2 := nostr _ _ _ _ _ _ _ t2
  rcases t1 with ⟨-, e1, -⟩ | ⟨-, n1, c1, s1, d1, f1⟩
  · rcases t2 with ⟨-, e2, -⟩ | ⟨-, n2, c2, s2, d2, f2⟩
    · rw [e1, e2]
      exact ⟨by decide, by decide, by decide⟩
    · have h44 : x2 ≠ 44 := fun e => by
        rw [e, a1] at a4
        cases a4
        cases d2
        exact z1 _ _ f2
      rw [e1]
      exact ⟨by decide, h44, fun e => h44 e.symm⟩
  · have h51 : x1 ≠ 51 := fun e => by
      rw [e, a3] at a2
      cases a2
      cases d1
      exact z2 _ _ f1
    rcases t2 with ⟨-, e2, -⟩ | ⟨-, n2, c2, s2, d2, f2⟩
    · rw [e2]
      exact ⟨h51, by decide, h51⟩
    · refine ⟨h51, fun e => ?_, fun e => ?_⟩
      · rw [e, a1] at a4
        cases a4
        cases d2
        exact z1 _ _ f2
      · rw [e, a4] at a2
        cases a2
        rw [d1] at d2
        cases d2
        rw [f1] at f2
        injection f2 with f3
        injection f3 with f4 _
        exact absurd f4 (by decide +kernel)
end Mine
end

section
open PySem PySem.W PyProof.Rows PySem.Calls PySem.Spec
set_option Elab.async false
set_option maxRecDepth 100000
set_option maxHeartbeats 2000000
namespace Mine
local macro_rules | `(tactic| k_all) => `(tactic| first | exact List.forall_mem_nil _ | (refine' List.forall_mem_cons.mpr ⟨?a, ?b⟩; (case a => k_ne); (case b => k_all)))
local macro_rules | `(tactic| walk_at "call ref") => `(tactic| ((with_reducible show wpAny _ _ (call (Value.ref 49) _) _ _ _); refine hold_at ?_))
local macro_rules | `(tactic| walk_at "call ref") => `(tactic| ((with_reducible show wpAny _ _ (call (Value.ref 56) _) _ _ _); refine hold_at ?_))
local macro_rules | `(tactic| walk_at "call ref") => `(tactic| ((with_reducible show wpAny _ _ (call (Value.ref 35) _) _ _ _); refine hold_at ?_))
local macro_rules | `(tactic| walk_at "pyIter ref") => `(tactic| ((with_reducible show wpAny _ _ (pyIter _) (fun it s₂ => LoopAtV _ _ _ _ _ (Str.ofString "a_digit") _ _ _ it s₂) _ _); refine hold_at ?_))

local macro_rules | `(tactic| walk_at "call builtin:list.reverse") => `(tactic| refine hold_at ?_)

def Jd (nb D : Nat) (ai bi : Int) (qd : Addr) (others : List (Addr × Obj)) (r : List Value) (m : Str → Option Value) (news : List (Addr × Obj)) : Prop :=
  ∃ (rs qs : List Int) (qvs : List Value) (n2 : Nat) (Av : Int) (t tn tb : Tok), IntsAre r rs ∧ (∀ d ∈ rs, 0 ≤ d ∧ d < 2 ^ nb) ∧ IntsAre qvs qs ∧ (∀ d ∈ qs, 0 ≤ d ∧ d < 2 ^ nb) ∧ qs.length + rs.length = D ∧ 0 ≤ Av ∧ horner nb rs Av = ai ∧ val nb qs.reverse = Av / bi ∧
    (∀ q ∈ [(Str.ofString "r", Value.int (Av % bi) t), (Str.ofString "n", Value.int (nb : Int) tn), (Str.ofString "b", Value.int bi tb), (Str.ofString "q_digits", Value.ref qd)], m q.1 = some q.2) ∧
    news = (qd, W.listOf qvs.toArray n2) :: others

theorem c_dmp {w : World} {dp un : Nat} {gd : Option (List Code)} {cn : Str} {cs : Scope} {a' : Addr} {ccd : Value} {cl : List (Str × Addr)} {outer : List Env} {A₀ : Around} {base h₀ : Heap} {L : Addr} {m : Str → Option Value} {s : Shared} {Q E : Value → Shared → Prop}
  {p : Program} {loose : List Str} {mean : ExcName → Option Value} {mg mb : Str → Option Value} {p1 p2 : Array Value} {x1 x2 : Addr} {o1 o2 : Obj} {rest : List (Addr × Obj)} {ai bi : Int} {ta tb : Tok} (a b : Nat)
  (B : Below A₀ base outer h₀) (F : Fr h₀ L s.heap m) (X : (hd.heap_39 w.params).In h₀) (T : Top p loose mean mg mb h₀) (CH1 : CodeHd base 48 44) (CH2 : CodeHd base 55 51) (hk : cs.kind = .function)
  (N0 : News h₀ L s.heap [(44, tabObj p1), (x1, o1), (51, tabObj p2), (x2, o2)]) (ts1 : TS 44 50 4 q1 p1 x1 o1) (ts2 : TS 51 65 4 q2 p2 x2 o2) (NR : News h₀ L s.heap rest) (hR : ∀ q ∈ rest, q.1 ≠ 44 ∧ q.1 ≠ x1 ∧ q.1 ≠ 51 ∧ q.1 ≠ x2)
  (eai : ai = (a : Int)) (ebi : bi = (b : Int)) (ha : a < 4096) (hb1 : 1 ≤ b) (hb2 : b < 16)
  (hdp : dp + 40 < recursionLimit) (hun : un + 400 < cLine)
  (ret : ∀ (D : Addr) (t1 t2 : Tok) (nn : Nat) (p1' p2' : Array Value) (x1' x2' : Addr) (o1' o2' : Obj) (h' : Heap) (tk' : Nat), Fr h₀ L h' m →
    News h₀ L h' [(D, tupO [.int (ai / bi) t1, .int (ai % bi) t2] nn), (44, tabObj p1'), (x1', o1'), (51, tabObj p2'), (x2', o2')] → TS 44 50 4 q1 p1' x1' o1' → TS 51 65 4 q2 p2' x2' o2' → News h₀ L h' rest →
    (44 < D ∧ x1' < D ∧ 51 < D ∧ x2' < D) → (∀ q ∈ rest, q.1 ≠ D ∧ q.1 ≠ x1' ∧ q.1 ≠ x2') → Q (.ref D) { s with heap := h', toks := tk' }) :
  wpAny (model PySem.Challenge.rw_hz0003_01.row.prog w) (ktrTop dp un gd cn cs L a' ccd cl outer) (call (.ref 63) [.int ai ta, .int bi tb]) Q E s := by
  revert X; k_fill; intro X
  obtain ⟨hs1, hs2, hs3⟩ := ts_sep N0 ts1 ts2
  subst eai ebi
  refine wpAny_call ?_
  k_dflt (refine' callR ?k1 ?k2 ?k3 ?k4 ?kr ?ko ?k5 ?kA ?kF ?kK ?k6 ?k7 ?k8 ?k9 ?kB ?_ ?c2 ?c3 ?c4 ?c5; (case kA => exact rfl); (case kF => exact rfl); (case kK => exact hk); (case k1 => exact B); (case k2 => exact F); (case k3 => exact X); (case k4 => exact N0); (case kr => exact NR); (case ko => (intro q hq; simp; exact hR q hq)); (case k5 => exact T); (case k6 => k_is); (case k7 => k_is); (case k8 => (show dp < recursionLimit; omega)); (case k9 => exact BindsTo.of_eq rfl); (case c5 => decide); (case kB => exact locs rfl); (case c2 => exact rfl); (case c3 => exact rfl); (case c4 => exact rfl); k_whole)
  intro g' L' h' FG' F' N' NRg B' X' T' l1 l2
  (try dsimp only); (try k_lift B'); (try k_fold)
  clear N0 NR
  k_steps
  have hn4 : Builtin.Int.intBits (b : Int) ≤ 4 := bits_lt (b := 4) hb2
  have hn1 : 1 ≤ Builtin.Int.intBits (b : Int) := by
    have h9 := bits_self b
    rcases Nat.lt_or_ge (Builtin.Int.intBits (b : Int)) 1 with h0 | h0
    · have e : Builtin.Int.intBits (b : Int) = 0 := by omega
      rw [e] at h9
      omega
    · exact h0
  refine ⟨?_⟩
  refine c_i2d (ps := p1) (x := x1) (o := o1) (rest := [(51, tabObj p2), (x2, o2)]) a (Builtin.Int.intBits (b : Int)) (by k_asm) (by k_asm) (by k_asm) (by k_asm) CH1 rfl (News.drop (by k_asm) (by k_allIn)) ts1 (News.drop (by k_asm) (by k_allIn)) ?_ rfl rfl ha hn1 hn4 ?_ ?_ ?_
  · refine List.forall_mem_cons.mpr ⟨⟨(by decide : (51 : Nat) ≠ 44), fun e => hs1 e.symm⟩, List.forall_mem_cons.mpr ⟨⟨hs2, fun e => hs3 e.symm⟩, List.forall_mem_nil _⟩⟩
  · show dp + 1 + 16 < recursionLimit
    omega
  · show un + 3 + 128 < cLine
    omega
  intro l vs nn p1' x1' o1' h9 tk9 F9 N9 ts1' NR9 hl44 hxl hrl hrx hi9
  have hr1 : @LT.lt Nat _ 51 l := hrl _ (List.Mem.head _)
  have hr2 : @LT.lt Nat _ x2 l := hrl _ (List.Mem.tail _ (List.Mem.head _))
  have hr3 : @Ne Nat 51 x1' := hrx _ (List.Mem.head _)
  have hr4 : @Ne Nat x2 x1' := hrx _ (List.Mem.tail _ (List.Mem.head _))
  have hl44' := ltN hl44
  have hxl' := neN hxl
  clear hrl hrx
  have N8 := News.app N9 NR9
  clear N9 NR9
  simp only [List.cons_append, List.nil_append] at N8
  (try dsimp only)
  k_sweep
  k_steps
  rename_i qd hA lA hB D9 hC FC NC lC
  have hdl : vs.length ≤ 12 := by
    rw [hi9.length, digs_len]
    exact nDig_le hn1 ha
  refine ⟨?_⟩
  refine rev_inv (lo := W.listOf vs.toArray nn) (Jd (Builtin.Int.intBits (b : Int)) vs.length (a : Int) (b : Int) qd [(l, W.listOf vs.toArray nn), (44, tabObj p1'), (x1', o1'), (51, tabObj p2), (x2, o2)]) rfl FC NC (by k_offL) (by k_mem) rfl rfl ?_ ?_ ?_
  · refine' ⟨_, [], [], _, 0, _, _, _, hi9.reverse, ?_, .nil, (fun _ h => nomatch h), ?_, Int.le_refl _, ?_, ?_, ?_, rfl⟩
    rotate_left 3
    · intro d hd
      exact digs_mem _ _ _ d (List.mem_reverse.mp hd)
    · rw [List.length_reverse, digs_len, hi9.length, digs_len]
      simp
    · rw [horner_rev, val_digs _ _ _ (nDig_ub hn1)]
    · simp [val]
    · refine List.forall_mem_cons.mpr ⟨?_, List.forall_mem_cons.mpr ⟨?_, List.forall_mem_cons.mpr ⟨?_, List.forall_mem_cons.mpr ⟨?_, List.forall_mem_nil _⟩⟩⟩⟩
      · rw [Int.zero_emod]
        rfl
      · rfl
      · rfl
      · rfl
  · rintro v r m news it h tk ⟨rs, qs, qvs, n2, Av, t, tn, tb', hir, hrb, hiq, hqb, hlen, hA0, hho, hvl, hmm, rfl⟩ hit F7 N7
    cases hir with
    | cons d td hir =>
    have F6 := fr_ps _ hmm F7
    clear F7 FC NC
    (try k_fold)
    have hb0 : (0 : Int) < (b : Int) := by omega
    have hb16 : (b : Int) < 16 := by omega
    have hr0 := Int.emod_nonneg Av (show (b : Int) ≠ 0 by omega)
    have hr9 := Int.emod_lt_of_pos Av hb0
    have hbb : Builtin.Int.intBits (Av % (b : Int)) ≤ 64 := intBits_le_64 (by omega) (by omega)
    have hS0 : (0 : Int) ≤ (Builtin.Int.intBits (b : Int) : Int) := by omega
    have hS1 : (Builtin.Int.intBits (Av % (b : Int)) : Int) + (Builtin.Int.intBits (b : Int) : Int) ≤ 2 ^ 27 := by omega
    k_with_none
    k_with "binaryOp LShift int int" => (refine' lshift_int hS0 hS1 ?_)
    k_steps
    have hd := hrb d (.head _)
    obtain ⟨hs0, hq0, hq1⟩ := step_bound (n := Builtin.Int.intBits (b : Int)) hb0 hr0 hr9 hd.1 hd.2
    have hpw : (2 : Int) ^ Builtin.Int.intBits (b : Int) ≤ 16 := by
      have h8 : (2 : Nat) ^ Builtin.Int.intBits (b : Int) ≤ 2 ^ 4 := Nat.pow_le_pow_right (by decide) hn4
      rw [← kbt_cast]
      omega
    have hsb : Av % (b : Int) * 2 ^ Builtin.Int.intBits (b : Int) + d < 2 ^ 64 := by
      have h8 : Av % (b : Int) * 2 ^ Builtin.Int.intBits (b : Int) ≤ 16 * 16 := Int.mul_le_mul (by omega) hpw (Int.le_of_lt (kbt_pos _)) (by decide)
      omega
    refine ⟨?_⟩
    refine c_div2 (by k_asm) (by k_asm) (by k_asm) (by k_asm) (by k_asm) rfl hs0 hb0 hb16 ?_ ?_ ?_ ?_
    · have h8 : Builtin.Int.intBits (Av % (b : Int) * 2 ^ Builtin.Int.intBits (b : Int) + d) ≤ 64 := intBits_le_64 (by omega) hsb
      show (Builtin.Int.intBits (Av % (b : Int) * 2 ^ Builtin.Int.intBits (b : Int) + d) : Int) - (Builtin.Int.intBits (b : Int) : Int) ≤ 4000
      omega
    · show dp + 1 + 1 < recursionLimit
      omega
    · show un + 3 + 8 < cLine
      omega
    intro y t1 t2 n3 h8 tk8 F8 N8 l8
    k_lt l8
    (try dsimp only)
    k_sweep
    k_steps
    (try simp only [List.cons_append, List.nil_append])
    (try k_steps)
    rename Fr _ _ _ _ => F5
    rename News _ _ _ _ => N5
    simp only [Int.toNat_natCast, List.push_toArray] at F5 N5
    obtain ⟨hsd, hsm⟩ := step_div (A := Av) (d := d) (Builtin.Int.intBits (b : Int)) hb0
    refine RvEnd.mk' ((qd, W.listOf (qvs ++ [Value.int ((Av % (b : Int) * 2 ^ Builtin.Int.intBits (b : Int) + d) / (b : Int)) t1]).toArray (n2 + 1)) :: [(l, W.listOf vs.toArray nn), (44, tabObj p1'), (x1', o1'), (51, tabObj p2), (x2, o2)]) F5 N5 (by k_allIn) (by k_all) ⟨by k_mem, ?_⟩
    refine ⟨_, qs ++ [(Av % (b : Int) * 2 ^ Builtin.Int.intBits (b : Int) + d) / (b : Int)], _, _, Av * 2 ^ Builtin.Int.intBits (b : Int) + d, t2, tn, tb', hir, fun d' hd' => hrb d' (.tail _ hd'), hiq.append (.cons _ t1 .nil), ?_, ?_, ?_, hho, ?_, ?_, rfl⟩
    · intro d' hd'
      rcases List.mem_append.mp hd' with h7 | h7
      · exact hqb d' h7
      · rw [List.mem_singleton.mp h7]
        exact ⟨hq0, hq1⟩
    · rw [List.length_append, List.length_cons, List.length_nil]
      rw [List.length_cons] at hlen
      omega
    · have h7 := Int.mul_nonneg hA0 (Int.le_of_lt (kbt_pos (Builtin.Int.intBits (b : Int))))
      omega
    · rw [List.reverse_append, List.reverse_cons, List.reverse_nil, List.nil_append, List.cons_append, List.nil_append, val, hvl, hsd]
    · refine List.forall_mem_cons.mpr ⟨?_, List.forall_mem_cons.mpr ⟨?_, List.forall_mem_cons.mpr ⟨?_, List.forall_mem_cons.mpr ⟨?_, List.forall_mem_nil _⟩⟩⟩⟩
      · rw [hsm]
        rfl
      · rfl
      · rfl
      · rfl
  · rintro m news h tk ⟨rs, qs, qvs, n2, Av, t, tn, tb', hir, hrb, hiq, hqb, hlen, hA0, hho, hvl, hmm, rfl⟩ F7 N7
    cases hir
    have hAa : Av = (a : Int) := hho
    subst hAa
    have F6 := fr_ps0 _ hmm F7
    clear F7 FC NC
    (try dsimp only)
    k_steps
    have hql : qvs.length ≤ 12 := by
      rw [hiq.length]
      rw [List.length_nil] at hlen
      omega
    refine ⟨?_⟩
    refine kl_reverse (its := qvs.toArray) (l := qvs.reverse) (by k_asm) (by k_asm) (by simp) (by k_upd) (by simp only [List.toList_toArray, PySem.sizeLine_eq]; omega) ?_
    intro h8 F8 N8
    (try dsimp only)
    k_sweep
    k_steps
    have hI7 : IntsAre qvs.reverse qs.reverse := hiq.reverse
    have hs9 := ts_sep (News.drop (by k_asm) (by k_allIn)) ts1' ts2
    refine ⟨?_⟩
    refine c_d2i (l := qd) (ps := p2) (x := x2) (o := o2) (rest := [(44, tabObj p1'), (x1', o1')]) (Builtin.Int.intBits (b : Int)) (by k_asm) (by k_asm) (by k_asm) (by k_asm) CH2 rfl (News.drop (by k_asm) (by k_allIn)) ts2 (News.drop (by k_asm) (by k_allIn)) ?_ (by k_ne) (by k_ne) hI7 (fun d hd => hqb d (List.mem_reverse.mp hd)) ?_ rfl hn1 hn4 ?_ ?_ ?_
    · refine List.forall_mem_cons.mpr ⟨⟨by k_ne, (by decide : (44 : Nat) ≠ 51), fun e => hs9.2.1 e.symm⟩, List.forall_mem_cons.mpr ⟨⟨by k_ne, hs9.1, hs9.2.2⟩, List.forall_mem_nil _⟩⟩
    · rw [← hI7.length, List.length_reverse]
      omega
    · show dp + 1 + 24 < recursionLimit
      omega
    · show un + 3 + 192 < cLine
      omega
    intro t5 p2' x2' o2' h5 tk5 F5 N5 ts2' NR5 hx5 hr5
    have hr6 : @Ne Nat 44 x2' := hr5 _ (List.Mem.head _)
    have hr7 : @Ne Nat x1' x2' := hr5 _ (List.Mem.tail _ (List.Mem.head _))
    have N6 := News.app N5 NR5
    clear N5 NR5 hr5
    simp only [List.cons_append, List.nil_append] at N6
    (try dsimp only)
    k_sweep
    k_steps
    rename_i hh1 D6 hh0 FF6 NN6 lt6 kF6 kN6 kT6 kX6
    rw [hvl] at kN6
    have hap := news_apart NN6 NRg
    refine ret D6 t5 t _ p1' p2' x1' x2' o1' o2' _ _ kF6 (News.drop kN6 (by k_allIn)) ts1' ts2' (News.over NRg (Fr.keep FF6)) ⟨?_, ?_, ?_, ?_⟩ fun q hq => ⟨hap q hq (D6, _) (by k_mem), hap q hq (x1', _) (by k_mem), hap q hq (x2', _) (by k_mem)⟩
    all_goals (refine ltN ?_; omega)
end Mine
end

section
open PySem PySem.W PyProof.Rows PySem.Calls PySem.Spec
set_option Elab.async false
set_option maxRecDepth 100000
set_option maxHeartbeats 2000000
namespace Mine
local macro_rules | `(tactic| k_all) => `(tactic| first | exact List.forall_mem_nil _ | (refine' List.forall_mem_cons.mpr ⟨?a, ?b⟩; (case a => k_ne); (case b => k_all)))
local macro_rules | `(tactic| walk_at "call ref") => `(tactic| ((with_reducible show wpAny _ _ (call (Value.ref 63) _) _ _ _); refine hold_at ?_))

theorem c_idm {w : World} {dp un : Nat} {gd : Option (List Code)} {cn : Str} {cs : Scope} {a' : Addr} {ccd : Value} {cl : List (Str × Addr)} {outer : List Env} {A₀ : Around} {base h₀ : Heap} {L : Addr} {m : Str → Option Value} {s : Shared} {Q E : Value → Shared → Prop}
  {p : Program} {loose : List Str} {mean : ExcName → Option Value} {mg mb : Str → Option Value} {p1 p2 : Array Value} {x1 x2 : Addr} {o1 o2 : Obj} {rest : List (Addr × Obj)} {ai bi : Int} {ta tb : Tok} (a b : Nat)
  (B : Below A₀ base outer h₀) (F : Fr h₀ L s.heap m) (X : (hd.heap_39 w.params).In h₀) (T : Top p loose mean mg mb h₀) (CH1 : CodeHd base 48 44) (CH2 : CodeHd base 55 51) (hk : cs.kind = .function)
  (N0 : News h₀ L s.heap [(44, tabObj p1), (x1, o1), (51, tabObj p2), (x2, o2)]) (ts1 : TS 44 50 4 q1 p1 x1 o1) (ts2 : TS 51 65 4 q2 p2 x2 o2) (NR : News h₀ L s.heap rest) (hR : ∀ q ∈ rest, q.1 ≠ 44 ∧ q.1 ≠ x1 ∧ q.1 ≠ 51 ∧ q.1 ≠ x2)
  (eai : ai = (a : Int)) (ebi : bi = (b : Int)) (ha : a < 4096) (hb1 : 1 ≤ b) (hb2 : b < 16)
  (hdp : dp + 50 < recursionLimit) (hun : un + 450 < cLine)
  (ret : ∀ (D : Addr) (t1 t2 : Tok) (nn : Nat) (p1' p2' : Array Value) (x1' x2' : Addr) (o1' o2' : Obj) (h' : Heap) (tk' : Nat), Fr h₀ L h' m →
    News h₀ L h' [(D, tupO [.int (ai / bi) t1, .int (ai % bi) t2] nn), (44, tabObj p1'), (x1', o1'), (51, tabObj p2'), (x2', o2')] → TS 44 50 4 q1 p1' x1' o1' → TS 51 65 4 q2 p2' x2' o2' → News h₀ L h' rest →
    (44 < D ∧ x1' < D ∧ 51 < D ∧ x2' < D) → (∀ q ∈ rest, q.1 ≠ D ∧ q.1 ≠ x1' ∧ q.1 ≠ x2') → Q (.ref D) { s with heap := h', toks := tk' }) :
  wpAny (model PySem.Challenge.rw_hz0003_01.row.prog w) (ktrTop dp un gd cn cs L a' ccd cl outer) (call (.ref 70) [.int ai ta, .int bi tb]) Q E s := by
  revert X; k_fill; intro X
  refine wpAny_call ?_
  k_dflt (refine' callR ?k1 ?k2 ?k3 ?k4 ?kr ?ko ?k5 ?kA ?kF ?kK ?k6 ?k7 ?k8 ?k9 ?kB ?_ ?c2 ?c3 ?c4 ?c5; (case kA => exact rfl); (case kF => exact rfl); (case kK => exact hk); (case k1 => exact B); (case k2 => exact F); (case k3 => exact X); (case k4 => exact N0); (case kr => exact NR); (case ko => (intro q hq; simp; exact hR q hq)); (case k5 => exact T); (case k6 => k_is); (case k7 => k_is); (case k8 => (show dp < recursionLimit; omega)); (case k9 => exact BindsTo.of_eq rfl); (case c5 => decide); (case kB => exact locs rfl); (case c2 => exact rfl); (case c3 => exact rfl); (case c4 => exact rfl); k_whole)
  intro g' L' h' FG' F' N' NRg B' X' T' l1 l2
  (try dsimp only); (try k_lift B'); (try k_fold)
  clear N0 NR
  have ha0 : 0 ≤ ai := by omega
  have hb0 : 0 < bi := by omega
  k_steps
  · exfalso; omega
  refine ⟨?_⟩
  refine c_dmp (rest := []) a b (by k_asm) (by k_asm) (by k_asm) (by k_asm) CH1 CH2 rfl (by k_asm) ts1 ts2 (fun _ h9 => nomatch h9) (fun _ h9 => nomatch h9) eai ebi ha hb1 hb2 ?_ ?_ ?_
  · show dp + 1 + 40 < recursionLimit
    omega
  · show un + 3 + 400 < cLine
    omega
  intro D t1 t2 nn p1' p2' x1' x2' o1' o2' h5 tk5 F5 N5 ts1' ts2' Nz hD hz
  clear Nz hz
  (try dsimp only)
  k_sweep
  k_steps
  rename News g' L' _ _ => NN6
  rename Fr g' L' _ _ => FF6
  have hap := news_apart NN6 NRg
  exact ret D t1 t2 nn p1' p2' x1' x2' o1' o2' _ _ (by assumption) (by assumption) ts1' ts2' (News.over NRg (Fr.keep FF6)) hD fun q hq => ⟨hap q hq (D, _) (by k_mem), hap q hq (x1', _) (by k_mem), hap q hq (x2', _) (by k_mem)⟩
end Mine
end

section
open PySem PySem.W PyProof.Rows PySem.Calls PySem.Spec
set_option Elab.async false
set_option maxRecDepth 100000
set_option maxHeartbeats 1000000
namespace Mine
section
variable {prog : Program} {w : World} {A : Around} {E : Value → Shared → Prop} {s : Shared} {h₀ : Heap} {L : Addr} {m : Str → Option Value} {news : List (Addr × Obj)}
theorem applied3 {sl : Addr} {u : Tok} {Q : Int × Int × Nat → Shared → Prop} (hs : s.heap.IsSliceOf sl .none (.int 3 u) .none) (h : Q (0, 1, 3) s) :
    wpAny (model prog w) A (Builtin.Slice.sliceApplied (.ref sl) (pure (5 : Int))) Q E s := by
  obtain ⟨os, hos, hcs, hds⟩ := hs
  unfold Builtin.Slice.sliceApplied Builtin.Slice.sliceFields
  refine wpAny_bind (wpAny_bind (wpAny_field hos hds (x := .none) rfl (wpAny_bind (wpAny_field hos hds (x := .int 3 u) rfl (wpAny_bind (wpAny_field hos hds (x := .none) rfl (wpAny_pure ?_)))))))
  refine wpAny_bind (slicePart_none ?_)
  show wpAny _ _ (if ((1 : Int) == 0) = true then _ else _) _ _ s
  rw [if_neg (by decide)]
  refine wpAny_bind (slicePart_none (wpAny_bind (slicePart_int (wpAny_bind (wpAny_pure ?_)))))
  exact wpAny_pure h

theorem getItem_upto3 {t sl : Addr} {v0 v1 v2 v3 v4 : Value} {u : Tok} {Q : Value → Shared → Prop} (ht : IsTup s.heap t #[v0, v1, v2, v3, v4]) (hs : s.heap.IsSliceOf sl .none (.int 3 u) .none)
    (h : Q (.ref s.heap.objs.size) { s with heap := s.heap.push { cls := .type "tuple", data := .seq #[v0, v1, v2] } }) : wpAny (model prog w) A (getItem (.ref t) (.ref sl)) Q E s := by
  obtain ⟨os, hos, hcs, hds⟩ := id hs
  have hTs : s.TypeIs (.ref sl) "slice" := ⟨os, hos, hcs⟩
  unfold getItem
  refine wpAny_holding ?_
  first | refine wpAny_bind (wpAny_pure ?_) | skip
  refine wpAny_bind (wpAny_sequenceKey ht.typeIs (by decide) ?_)
  refine wpAny_bind (wpAny_callSpecial?_slot (name := Str.ofString "__getitem__") ht.typeIs slot_tuple_getitem
    (wpAny_call_entry slot_tuple_getitem ht.typeIs entry_tuple_getitem ?_ (args_tuple_getitem _ _)))
  have hsz : sizeOk (.seq #[v0, v1, v2]) := by
    show 3 ≤ sizeLine
    decide
  show wpAny _ _ (Builtin.Tuple.tupleItemsOf (.ref t) >>= _) _ _ s
  refine wpAny_bind (tupleItemsOf_ ht ?_)
  refine wpAny_bind (wpAny_typeOf hTs ?_)
  rw [if_pos (by decide)]
  refine wpAny_bind (applied3 hs ?_)
  show wpAny _ _ (if ((0 : Int) == 0 && (1 : Int) == 1 && 3 == 5) = true then _ else _) _ _ s
  rw [if_neg (by decide)]
  have e : ((List.range 3).filterMap fun (k : Nat) => (#[v0, v1, v2, v3, v4] : Array Value)[((0 : Int) + (k : Int) * 1).toNat]?).toArray = #[v0, v1, v2] := rfl
  first
    | exact wpAny_bind (m := Builtin.Tuple.tupleExact _) (wpAny_newObj_type (wpAny_pure ⟨_, rfl, wpAny_pure h⟩) hsz)
    | exact wpAny_bind (m := Builtin.Tuple.tupleExact _) (wpAny_newObj_type (wpAny_bind (wpAny_pure (wpAny_pure ⟨_, rfl, wpAny_pure h⟩))) hsz)
    | exact wpAny_bind (wpAny_bind (m := Builtin.Tuple.tupleExact _) (wpAny_newObj_type (wpAny_pure (wpAny_pure ⟨_, rfl, wpAny_pure h⟩)) hsz))
    | exact wpAny_bind (wpAny_bind (m := Builtin.Tuple.tupleExact _) (wpAny_newObj_type (wpAny_pure ⟨_, rfl, wpAny_pure h⟩) hsz))

/-- t[:3] of a tuple of five -/
theorem slice_upto3 {value slice : PySem.Expr} {t : Addr} {v0 v1 v2 v3 v4 : Value} {n : Nat} {u : Tok} {Q : Value → Shared → Prop}
    (F : Fr h₀ L s.heap m) (N : News h₀ L s.heap news) (ht : (t, ({ cls := .type "tuple", data := .seq #[v0, v1, v2, v3, v4] n } : Obj)) ∈ news)
    (h : ∀ D h', Fr h₀ L h' m → News h₀ L h' ((D, { cls := .type "tuple", data := .seq #[v0, v1, v2] }) :: news) → (∀ q ∈ news, q.1 < D) → Q (.ref D) { s with heap := h' })
    (hs : subscripted slice false (.ref t) (.ref s.heap.objs.size) = operate [.ref s.heap.objs.size, .ref t] (getItem (.ref t) (.ref s.heap.objs.size)) := by with_unfolding_all rfl)
    (hg : ∀ r, letTemporaryGo value (.ref t) r = pure () := by intro _; with_unfolding_all rfl) :
    wpAny (model prog w) A (subscriptTail value slice (.ref t) (.ref s.heap.objs.size)) Q E { s with heap := s.heap.push { cls := .type "slice", data := .fields #[.none, .int 3 u, .none] } } := by
  have ht0 : IsTup s.heap t #[v0, v1, v2, v3, v4] := N.isTup ht
  have ht' : IsTup (s.heap.push { cls := .type "slice", data := .fields #[.none, .int 3 u, .none] }) t #[v0, v1, v2, v3, v4] := ht0.keeps fun _ _ e => Heap.get?_push_of_some _ e
  refine subscriptTail_ops (s := { s with heap := s.heap.push { cls := .type "slice", data := .fields #[.none, .int 3 u, .none] } }) ht'.typeIs slot_tuple_getitem.lookup
    (getItem_upto3 ht' (Heap.IsSliceOf.new ..) ?_) hs hg
  have N1 := News.push (F.push { cls := .type "slice", data := .fields #[.none, .int 3 u, .none] }) (N.grown fun _ _ e => Heap.get?_push_of_some _ e) { cls := .type "tuple", data := .seq #[v0, v1, v2] }
  refine h _ _ ((F.push _).push _) N1 fun q hq => ?_
  rw [Heap.size_push]
  exact Nat.lt_succ_of_lt (Heap.lt_size (N q hq).1)
end
end Mine
end

section
open PySem PySem.W PyProof.Rows PySem.Calls PySem.Spec
set_option Elab.async false
set_option maxRecDepth 100000
set_option maxHeartbeats 2000000
namespace Mine
local macro_rules | `(tactic| k_all) => `(tactic| first | exact List.forall_mem_nil _ | (refine' List.forall_mem_cons.mpr ⟨?a, ?b⟩; (case a => k_ne); (case b => k_all)))
local macro_rules | `(tactic| k_room) => `(tactic| ((simp only [depth_in1, depth_deeper, depth_under_make, depth_under_kw]); (try dsimp only [ktrTop]); omega))
local macro_rules | `(tactic| walk_at "call ref") => `(tactic| ((with_reducible show wpAny _ _ (call (Value.ref 70) _) _ _ _); refine hold_at ?_))
local macro_rules | `(tactic| walk_at "pyIter ref") => `(tactic| ((with_reducible show wpAny _ _ (pyIter _) (fun it s₂ => LoopAtV _ _ _ _ _ (Str.ofString "k") _ _ _ it s₂) _ _); refine hold_at ?_))

/-- the whole parts and the rests of the first i steps, come together -/
def sq (c b sh : Nat) : Nat → Int
  | 0 => 0
  | i + 1 => ((i * b + sh : Nat) : Int) / (c : Int) + sq c b sh i
def sr (c b sh : Nat) : Nat → Int
  | 0 => 0
  | i + 1 => ((i * b + sh : Nat) : Int) % (c : Int) + sr c b sh i

def Jw (w : World) (c b sh : Nat) (I : Addr) (i : Nat) (m : Str → Option Value) (news : List (Addr × Obj)) : Prop :=
  ∃ (W dd : Addr) (od : Obj) (t1 t2 t3 t4 tc tb ts : Tok) (nn : Nat) (p1 p2 : Array Value) (x1 x2 : Addr) (o1 o2 : Obj), TS 44 50 4 q1 p1 x1 o1 ∧ TS 51 65 4 q2 p2 x2 o2 ∧
    (dd == sysModules) = false ∧ Obj.IsDictOf (PySem.strKind PySem.Challenge.rw_hz0003_01.row.prog w) od [] ∧ Obj.IsDictOf (intKind PySem.Challenge.rw_hz0003_01.row.prog w) od [] ∧
    (∀ q ∈ [(Str.ofString "whole", Value.ref W), (Str.ofString "count", Value.int (c : Int) tc), (Str.ofString "by", Value.int (b : Int) tb), (Str.ofString "shift", Value.int (sh : Int) ts)], m q.1 = some q.2) ∧
    (@Ne Nat W 44 ∧ @Ne Nat W x1 ∧ @Ne Nat W 51 ∧ @Ne Nat W x2) ∧ (@Ne Nat x1 I ∧ @Ne Nat x2 I ∧ @Ne Nat I 44 ∧ @Ne Nat I 51) ∧ (@Ne Nat dd 44 ∧ @Ne Nat dd x1 ∧ @Ne Nat dd 51 ∧ @Ne Nat dd x2) ∧
    news = [(W, tupO [.int (sq c b sh i) t1, .int (sr c b sh i) t2, .int (i : Int) t3, .int 0 t4, .ref dd] nn), (dd, od), (44, tabObj p1), (x1, o1), (51, tabObj p2), (x2, o2)]

theorem c_wh {w : World} {dp un : Nat} {gd : Option (List Code)} {cn : Str} {cs : Scope} {a' : Addr} {ccd : Value} {cl : List (Str × Addr)} {outer : List Env} {A₀ : Around} {base h₀ : Heap} {L : Addr} {m : Str → Option Value} {s : Shared} {Q E : Value → Shared → Prop}
  {p : Program} {loose : List Str} {mean : ExcName → Option Value} {mg mb : Str → Option Value} {p1 p2 : Array Value} {x1 x2 : Addr} {o1 o2 : Obj} {rest : List (Addr × Obj)} {ci bi si : Int} {tc tb ts : Tok} (c b sh : Nat)
  (B : Below A₀ base outer h₀) (F : Fr h₀ L s.heap m) (X : (hd.heap_39 w.params).In h₀) (T : Top p loose mean mg mb h₀) (CH1 : CodeHd base 48 44) (CH2 : CodeHd base 55 51) (hk : cs.kind = .function)
  (N0 : News h₀ L s.heap [(44, tabObj p1), (x1, o1), (51, tabObj p2), (x2, o2)]) (ts1 : TS 44 50 4 q1 p1 x1 o1) (ts2 : TS 51 65 4 q2 p2 x2 o2) (NR : News h₀ L s.heap rest) (hR : ∀ q ∈ rest, q.1 ≠ 44 ∧ q.1 ≠ x1 ∧ q.1 ≠ 51 ∧ q.1 ≠ x2)
  (eci : ci = (c : Int)) (ebi : bi = (b : Int)) (esi : si = (sh : Int)) (hc1 : 1 ≤ c) (hc2 : c < 16) (hb2 : b ≤ 30) (hs2 : sh < 1000)
  (hdp : dp + 60 < recursionLimit) (hun : un + 500 < cLine)
  (ret : ∀ (D : Addr) (t1 t2 t3 : Tok) (nn : Nat) (p1' p2' : Array Value) (x1' x2' : Addr) (o1' o2' : Obj) (h' : Heap) (tk' : Nat), Fr h₀ L h' m →
    News h₀ L h' [(D, tupO [.int (sq c b sh c) t1, .int (sr c b sh c) t2, .int (c : Int) t3] nn), (44, tabObj p1'), (x1', o1'), (51, tabObj p2'), (x2', o2')] → TS 44 50 4 q1 p1' x1' o1' → TS 51 65 4 q2 p2' x2' o2' → News h₀ L h' rest →
    (44 < D ∧ x1' < D ∧ 51 < D ∧ x2' < D) → (∀ q ∈ rest, q.1 ≠ D ∧ q.1 ≠ x1' ∧ q.1 ≠ x2') → Q (.ref D) { s with heap := h', toks := tk' }) :
  wpAny (model PySem.Challenge.rw_hz0003_01.row.prog w) (ktrTop dp un gd cn cs L a' ccd cl outer) (call (.ref 84) [.int ci tc, .int bi tb, .int si ts]) Q E s := by
  revert X; k_fill; intro X
  subst eci ebi esi
  refine wpAny_call ?_
  k_dflt (refine' callR ?k1 ?k2 ?k3 ?k4 ?kr ?ko ?k5 ?kA ?kF ?kK ?k6 ?k7 ?k8 ?k9 ?kB ?_ ?c2 ?c3 ?c4 ?c5; (case kA => exact rfl); (case kF => exact rfl); (case kK => exact hk); (case k1 => exact B); (case k2 => exact F); (case k3 => exact X); (case k4 => exact N0); (case kr => exact NR); (case ko => (intro q hq; simp; exact hR q hq)); (case k5 => exact T); (case k6 => k_is); (case k7 => k_is); (case k8 => (show dp < recursionLimit; omega)); (case k9 => exact BindsTo.of_eq rfl); (case c5 => decide); (case kB => exact locs rfl); (case c2 => exact rfl); (case c3 => exact rfl); (case c4 => exact rfl); k_whole)
  intro g' L' h' FG' F' N' NRg B' X' T' l1 l2
  k_lt l1
  (try dsimp only); (try k_lift B'); (try k_fold)
  clear N0 NR
  k_steps
  rename IsRange _ _ _ _ _ _ _ _ => rgX
  refine ⟨?_⟩
  refine krs_inv (n := c) (Jw w c b sh) rfl rgX (small_one (by omega) (by omega) (by omega) (by omega)) ((rangeSize_nat 0 (c : Int)).trans (by simp)) (by assumption) (by assumption) ?_ ?_ ?_
  · intro I hI
    k_lt hI
    refine' ⟨_, _, _, _, _, _, _, _, _, _, _, p1, p2, x1, x2, o1, o2, ts1, ts2, by assumption, by assumption, by assumption, ?_, ⟨by k_ne, by k_ne, by k_ne, by k_ne⟩, ⟨by k_ne, by k_ne, by k_ne, by k_ne⟩, ⟨by k_ne, by k_ne, by k_ne, by k_ne⟩, rfl⟩
    rotate_left 3
    refine List.forall_mem_cons.mpr ⟨?_, List.forall_mem_cons.mpr ⟨?_, List.forall_mem_cons.mpr ⟨?_, List.forall_mem_cons.mpr ⟨?_, List.forall_mem_nil _⟩⟩⟩⟩
    · rfl
    · rfl
    · rfl
    · rfl
  · rintro I i m news it tk9 h tk hi ⟨W, dd, od, t1, t2, t3, t4, tc', tb', ts', nn, p1', p2', x1', x2', o1', o2', ts1', ts2', hdd, hs5, hi5, hmm, hW, hIx, hdn, rfl⟩ hit F7 N7
    have F6 := fr_ps _ hmm F7
    clear F7
    (try k_fold)
    k_steps
    have eik : (0 + (i : Int) * 1) * (b : Int) + (sh : Int) = ((i * b + sh : Nat) : Int) := by
      rw [Int.zero_add, Int.mul_one, Int.natCast_add, Int.natCast_mul]
    have hib : i * b ≤ 15 * 30 := Nat.mul_le_mul (by omega) hb2
    obtain ⟨hW1, hW2, hW3, hW4⟩ := hW
    obtain ⟨hd1, hd2, hd3, hd4⟩ := hdn
    obtain ⟨hI2, hI4, hI1, hI3⟩ := hIx
    refine ⟨?_⟩
    refine c_idm (rest := [(I, it), (W, tupO [.int (sq c b sh i) t1, .int (sr c b sh i) t2, .int (i : Int) t3, .int 0 t4, .ref dd] nn), (dd, od)]) (i * b + sh) c (by k_asm) (by k_asm) (by k_asm) (by k_asm) CH1 CH2 rfl (News.drop (by k_asm) (by k_allIn)) ts1' ts2' (News.drop (by k_asm) (by k_allIn)) ?_ eik rfl (by omega) hc1 hc2 ?_ ?_ ?_
    · refine List.forall_mem_cons.mpr ⟨⟨hI1, fun e => hI2 e.symm, hI3, fun e => hI4 e.symm⟩, List.forall_mem_cons.mpr ⟨⟨hW1, hW2, hW3, hW4⟩, List.forall_mem_cons.mpr ⟨⟨hd1, hd2, hd3, hd4⟩, List.forall_mem_nil _⟩⟩⟩
    · show dp + 1 + 50 < recursionLimit
      omega
    · show un + 3 + 450 < cLine
      omega
    intro D t5 t6 n5 p1s p2s x1s x2s o1s o2s h5 tk5 F5 N5 ts1s ts2s NR5 hD hrs
    have hz1 : @Ne Nat I D ∧ @Ne Nat I x1s ∧ @Ne Nat I x2s := hrs _ (List.Mem.head _)
    have hz2 : @Ne Nat W D ∧ @Ne Nat W x1s ∧ @Ne Nat W x2s := hrs _ (List.Mem.tail _ (List.Mem.head _))
    have hz3 : @Ne Nat dd D ∧ @Ne Nat dd x1s ∧ @Ne Nat dd x2s := hrs _ (List.Mem.tail _ (List.Mem.tail _ (List.Mem.head _)))
    clear hrs
    have N4 := News.app N5 NR5
    clear N5 NR5
    simp only [List.cons_append, List.nil_append] at N4
    (try dsimp only)
    k_sweep
    k_steps
    rename Fr g' L' _ _ => FF
    rename News g' L' _ _ => NN
    have e1 : 1 + (i : Int) = ((i + 1 : Nat) : Int) := by omega
    have e2 : ((i * b + sh : Nat) : Int) / (c : Int) + sq c b sh i = sq c b sh (i + 1) := rfl
    have e3 : ((i * b + sh : Nat) : Int) % (c : Int) + sr c b sh i = sr c b sh (i + 1) := rfl
    simp only [eik, e1, e2, e3, Int.add_zero] at NN
    refine' RvEnd.mk' _ FF NN ?a ?b ⟨_, _, _, _, _, _, _, tc', tb', ts', _, p1s, p2s, x1s, x2s, o1s, o2s, ts1s, ts2s, ?c1, ?c2, ?c3, ?c4, ?c5, ?c7, ?c6, rfl⟩
    case a => k_allIn
    case b => k_all
    case c1 => assumption
    case c2 => assumption
    case c3 => assumption
    case c4 =>
      refine List.forall_mem_cons.mpr ⟨?_, List.forall_mem_cons.mpr ⟨?_, List.forall_mem_cons.mpr ⟨?_, List.forall_mem_cons.mpr ⟨?_, List.forall_mem_nil _⟩⟩⟩⟩
      · rfl
      · rfl
      · rfl
      · rfl
    case c5 => exact ⟨by k_ne, by k_ne, by k_ne, by k_ne⟩
    case c7 => exact ⟨by k_ne, by k_ne, by k_ne, by k_ne⟩
    case c6 => exact ⟨by k_ne, by k_ne, by k_ne, by k_ne⟩
  · rintro I m news h tk ⟨W, dd, od, t1, t2, t3, t4, tc', tb', ts', nn, p1', p2', x1', x2', o1', o2', ts1', ts2', hdd, hs5, hi5, hmm, hW, hIx, hdn, rfl⟩ F7 N7
    have F6 := fr_ps0 _ hmm F7
    clear F7
    (try dsimp only)
    k_steps
    refine slice_upto3 (by k_asm) (by k_asm) (by k_mem) ?_
    intro D h5 F5 N5 l5
    k_lt l5
    (try dsimp only)
    k_sweep
    k_steps
    rename News g' L' _ _ => NN6
    rename Fr g' L' _ _ => FF6
    have hap := news_apart NN6 NRg
    refine ret D _ _ _ _ p1' p2' x1' x2' o1' o2' _ _ (by assumption) (News.drop (by assumption) (by k_allIn)) ts1' ts2' (News.over NRg (Fr.keep FF6)) ⟨?_, ?_, ?_, ?_⟩ fun q hq => ⟨hap q hq (D, _) (by k_mem), hap q hq (x1', _) (by k_mem), hap q hq (x2', _) (by k_mem)⟩
    all_goals (refine ltN ?_; omega)
end Mine
end

section
set_option Elab.async false
set_option maxRecDepth 100000
set_option maxHeartbeats 4000000
namespace Mine
open PySem PySem.W PyProof.Rows
theorem sq_step (c n : Nat) (hc : 1 ≤ c) : ∀ i, sq c 1 (n + 1) i + (n : Int) / (c : Int) = sq c 1 n i + ((n + i : Nat) : Int) / (c : Int)
  | 0 => by simp [sq]
  | i + 1 => by
    have ih := sq_step c n hc i
    have e1 : i * 1 + (n + 1) = n + (i + 1) := by omega
    have e2 : i * 1 + n = n + i := by omega
    rw [sq, sq, e1, e2]
    omega
theorem sq_zero (c : Nat) (hc : 1 ≤ c) : ∀ i, i ≤ c → sq c 1 0 i = 0
  | 0, _ => rfl
  | i + 1, h => by
    have e : ((i * 1 + 0 : Nat) : Int) / (c : Int) = 0 := Int.ediv_eq_zero_of_lt (by omega) (by omega)
    rw [sq, sq_zero c hc i (by omega), e]
    rfl
/-- Hermite -/
theorem hermite (c : Nat) (hc : 1 ≤ c) : ∀ n : Nat, sq c 1 n c = (n : Int)
  | 0 => sq_zero c hc c (Nat.le_refl _)
  | n + 1 => by
    have h1 := sq_step c n hc c
    have h2 := hermite c hc n
    have e : ((n + c : Nat) : Int) / (c : Int) = (n : Int) / (c : Int) + 1 := by
      rw [Int.natCast_add]
      have h3 := Int.add_mul_ediv_right (n : Int) 1 (show (c : Int) ≠ 0 by omega)
      rw [Int.one_mul] at h3
      exact h3
    omega
def allSmall (P : Nat → Nat → Bool) : Bool := (List.range 15).all fun a => (List.range 15).all fun b => P (a + 1) (b + 1)
theorem of_allSmall {P : Nat → Nat → Bool} (h : allSmall P = true) {O V : Nat} (hO1 : 1 ≤ O) (hO2 : O ≤ 15) (hV1 : 1 ≤ V) (hV2 : V ≤ 15) : P O V = true := by
  have h1 := List.all_eq_true.mp h (O - 1) (List.mem_range.mpr (by omega))
  have h2 := List.all_eq_true.mp h1 (V - 1) (List.mem_range.mpr (by omega))
  have e1 : O - 1 + 1 = O := by omega
  have e2 : V - 1 + 1 = V := by omega
  rw [e1, e2] at h2
  exact h2
def lawB (O V : Nat) : Bool :=
  decide (sq O V 0 O + sq V O 0 V = ((O : Int) - 1) * ((V : Int) - 1) + ((Nat.gcd O V : Nat) : Int) - 1) &&
  decide (2 * sq O V 0 O = ((O : Int) - 1) * ((V : Int) - 1) + ((Nat.gcd O V : Nat) : Int) - 1) &&
  decide (2 * sr O V 0 O = (O : Int) * ((O : Int) - ((Nat.gcd O V : Nat) : Int))) &&
  decide (sq O (V + O) 0 O = sq O V 0 O + ((O : Int) * ((O : Int) - 1)).fdiv 2)
theorem lawB_all : allSmall lawB = true := by decide +kernel
theorem law_nums {O V : Nat} (hO1 : 1 ≤ O) (hO2 : O ≤ 15) (hV1 : 1 ≤ V) (hV2 : V ≤ 15) :
    sq O V 0 O + sq V O 0 V = ((O : Int) - 1) * ((V : Int) - 1) + ((Nat.gcd O V : Nat) : Int) - 1 ∧
    2 * sq O V 0 O = ((O : Int) - 1) * ((V : Int) - 1) + ((Nat.gcd O V : Nat) : Int) - 1 ∧
    2 * sr O V 0 O = (O : Int) * ((O : Int) - ((Nat.gcd O V : Nat) : Int)) ∧
    sq O (V + O) 0 O = sq O V 0 O + ((O : Int) * ((O : Int) - 1)).fdiv 2 := by
  have h := of_allSmall lawB_all hO1 hO2 hV1 hV2
  simp only [lawB, Bool.and_eq_true, decide_eq_true_eq] at h
  exact ⟨h.1.1.1, h.1.1.2, h.1.2, h.2⟩
end Mine
end

section
open PySem PySem.W PyProof.Rows PySem.Calls PySem.Spec
set_option Elab.async false
set_option maxRecDepth 100000
set_option maxHeartbeats 1000000
namespace Mine
local macro_rules | `(tactic| walk_at "exec While") => `(tactic| refine hold_at ?_)
local macro_rules | `(tactic| walk_at "exec While Compare cons nil") => `(tactic| refine hold_at ?_)

def Jg (G : Nat) (n : Nat) (m : Str → Option Value) (news : List (Addr × Obj)) : Prop :=
  ∃ (a b : Nat) (ta tb : Tok), n = b ∧ Nat.gcd a b = G ∧ (∀ q ∈ [(Str.ofString "one", Value.int (a : Int) ta), (Str.ofString "other", Value.int (b : Int) tb)], m q.1 = some q.2) ∧ news = []

theorem c_sh {w : World} {dp un : Nat} {gd : Option (List Code)} {cn : Str} {cs : Scope} {a' : Addr} {ccd : Value} {cl : List (Str × Addr)} {outer : List Env} {A₀ : Around} {base h₀ : Heap} {L : Addr} {m : Str → Option Value} {s : Shared} {Q E : Value → Shared → Prop}
  {p : Program} {loose : List Str} {mean : ExcName → Option Value} {mg mb : Str → Option Value} {rest : List (Addr × Obj)} {ai bi : Int} {ta tb : Tok} (a b : Nat)
  (B : Below A₀ base outer h₀) (F : Fr h₀ L s.heap m) (X : (hd.heap_39 w.params).In h₀) (T : Top p loose mean mg mb h₀) (hk : cs.kind = .function)
  (NR : News h₀ L s.heap rest)
  (eai : ai = (a : Int)) (ebi : bi = (b : Int))
  (hdp : dp + 60 < recursionLimit) (hun : un + 500 < cLine)
  (ret : ∀ (t : Tok) (h' : Heap) (tk' : Nat), Fr h₀ L h' m → News h₀ L h' rest → Q (.int ((Nat.gcd a b : Nat) : Int) t) { s with heap := h', toks := tk' }) :
  wpAny (model PySem.Challenge.rw_hz0003_01.row.prog w) (ktrTop dp un gd cn cs L a' ccd cl outer) (call (.ref 77) [.int ai ta, .int bi tb]) Q E s := by
  revert X; k_fill; intro X
  subst eai ebi
  refine wpAny_call ?_
  k_dflt (refine' callR ?k1 ?k2 ?k3 ?k4 ?kr ?ko ?k5 ?kA ?kF ?kK ?k6 ?k7 ?k8 ?k9 ?kB ?_ ?c2 ?c3 ?c4 ?c5; (case kA => exact rfl); (case kF => exact rfl); (case kK => exact hk); (case k1 => exact B); (case k2 => exact F); (case k3 => exact X); (case k4 => exact (News.nil : News h₀ L s.heap [])); (case kr => exact NR); (case ko => (intro q hq; simp)); (case k5 => exact T); (case k6 => k_is); (case k7 => k_is); (case k8 => (show dp < recursionLimit; omega)); (case k9 => exact BindsTo.of_eq rfl); (case c5 => decide); (case kB => exact locs rfl); (case c2 => exact rfl); (case c3 => exact rfl); (case c4 => exact rfl); k_whole)
  intro g' L' h' FG' F' N' NRg B' X' T' l1 l2
  (try dsimp only); (try k_lift B'); (try k_fold)
  clear NR l1
  k_steps
  refine ⟨?_⟩
  refine While_inv2 (n₀ := b) (Jg (Nat.gcd a b)) (by k_asm) (by k_asm) ⟨a, b, ta, tb, rfl, rfl, ?_, rfl⟩ ?_
  · refine List.forall_mem_cons.mpr ⟨?_, List.forall_mem_cons.mpr ⟨?_, List.forall_mem_nil _⟩⟩
    · rfl
    · rfl
  · rintro n m₁ news₁ h₁ tk₁ F1 N1 ⟨u, v, tu, tv, rfl, hg, hmm, rfl⟩
    have F2 := fr_ps0 _ hmm F1
    clear F1 F' N'
    (try k_fold)
    k_steps
    · rename Fr _ _ _ _ => FF
      have hn0 : (0 : Int) < (n : Int) := by assumption
      have e1 : (u : Int).fmod (n : Int) = ((u % n : Nat) : Int) := by
        rw [Int.fmod_eq_emod_of_nonneg _ (by omega)]
        omega
      rw [e1] at FF
      have hlt : u % n < n := Nat.mod_lt _ (by omega)
      refine' ⟨_, _, _, [], u % n, rfl, FF, (fun _ h9 => nomatch h9), hlt, n, u % n, tv, _, rfl, ?_, ?_, rfl⟩
      rotate_left 1
      · rw [← hg, Nat.gcd_comm n, ← Nat.gcd_rec, Nat.gcd_comm]
      · refine List.forall_mem_cons.mpr ⟨?_, List.forall_mem_cons.mpr ⟨?_, List.forall_mem_nil _⟩⟩
        · rfl
        · rfl
    · have hn0 : n = 0 := by
        have h9 : ¬ (0 : Int) < (n : Int) := by assumption
        omega
      subst hn0
      rw [Nat.gcd_zero_right] at hg
      rw [hg]
      exact ret _ _ _ (by assumption) (News.over NRg (Fr.keep F2))
end Mine
end

section
open PySem PySem.W PyProof.Rows PySem.Calls PySem.Spec
open PyProof.Rows.LCg
set_option Elab.async false
set_option maxHeartbeats 1000000
namespace Mine
abbrev E2 (elt it1 it2 : PySem.Expr) (x y : Str) (px py : Pos) (ifs : List PySem.Expr) (scope : Scope) (pos : Pos) : PySem.Expr :=
  .ListComp elt [⟨.Name x px, it1, [], 0⟩, ⟨.Name y py, it2, ifs, 0⟩] scope pos

theorem turn_in (elt it1 it2 : PySem.Expr) (x y : Str) (px py : Pos) (ifs : List PySem.Expr) (scope : Scope) (pos : Pos) (it acc : Value) (env : Env) :
    compTurn (E2 elt it1 it2 x y px py ifs scope pos) 1 it acc env = (do
      standAt it2.pos
      match ← pyNext it with
      | none => pure (.done .next)
      | some v =>
        letOwnedTupleGo (.Name y py) it v
        assign (.Name y py) env v
        let mut ok := true
        for c in ifs do
          if ok then ok ← isTrue c env (eval c env)
        if ok then
          (do let _ ← call (.builtin "list.append") [acc, ← eval elt env])
        again (.compLoop (E2 elt it1 it2 x y px py ifs scope pos) 1 it acc env)) := by rfl

theorem turn_out (elt it1 it2 : PySem.Expr) (x y : Str) (px py : Pos) (ifs : List PySem.Expr) (scope : Scope) (pos : Pos) (it acc : Value) (env : Env) :
    compTurn (E2 elt it1 it2 x y px py ifs scope pos) 0 it acc env = (do
      standAt it1.pos
      match ← pyNext it with
      | none => pure (.done .next)
      | some v =>
        letOwnedTupleGo (.Name x px) it v
        assign (.Name x px) env v
        let z ← eval it2 env
        standAt it2.pos
        let z ← foldedSetIterable it2 env z
        let i ← holding [z] (pyIter z)
        let _ ← runOwn (.compStart (E2 elt it1 it2 x y px py ifs scope pos) 1 i acc env) env
        again (.compLoop (E2 elt it1 it2 x y px py ifs scope pos) 0 it acc env)) := by rfl

section
variable {prog : Program} {w : World} {A : Around}

theorem start_in {elt it1 it2 : PySem.Expr} {x y : Str} {px py : Pos} {ifs : List PySem.Expr} {scope : Scope} {pos : Pos} {it acc : Value} {env : Env} {R : Result → Shared → Prop} {s : Shared}
    (h0 : codeAny (model prog w) A (.compLoop (E2 elt it1 it2 x y px py ifs scope pos) 1 it acc env) R s)
    (h : wpAny (model prog w) A (pyIter it) (fun it' s' => codeAny (model prog w) A (.compLoop (E2 elt it1 it2 x y px py ifs scope pos) 1 it' acc env) R s')
      (notedBy (model prog w) A env fun x s' => R (.error x) s') s) :
    codeAny (model prog w) A (.compStart (E2 elt it1 it2 x y px py ifs scope pos) 1 it acc env) R s := by
  refine codeAny_of_tree ?_
  show wpAny _ _ ((compStart (E2 elt it1 it2 x y px py ifs scope pos) 1 it acc env).onRaise (fun x => do noteFrame x env; standAt theWindowsPlace)) _ _ s
  refine wpAny_notedAt ?_
  unfold compStart
  show wpAny _ _ (ask >>= _) _ _ s
  refine wpAny_bind (wpAny_askSetting (wpAny_ite ?_))
  split
  · first
      | exact wpAny_bind (wpAny_pure (wpAny_pure (And.intro rfl h0)))
      | exact wpAny_pure (And.intro rfl h0)
  · first
      | exact wpAny_bind (wpAny_rule (wpAny_bind (wpAny_standAt (wpAny_bind (wpAny_mono h (fun it' s' h' => wpAny_pure (And.intro rfl h')) fun _ _ x => x)))))
      | (refine wpAny_bind (wpAny_rule ?_); show wpAny _ _ (standAt it2.pos >>= _) _ _ s; exact wpAny_bind (wpAny_standAt (wpAny_bind (wpAny_mono h (fun it' s' h' => wpAny_pure (And.intro rfl h')) fun _ _ x => x))))

def CEnd (h₀ : Heap) (L : Addr) (m : Str → Option Value) (s : Shared) (all : List (Addr × Obj)) (K : Value → Prop) (y : Value) (s' : Shared) : Prop :=
  ∃ h' tk, s' = { s with heap := h', toks := tk } ∧ Fr h₀ L h' m ∧ News h₀ L h' all ∧ K y

def InTurn (prog : Program) (w : World) (A : Around) (h₀ : Heap) (L : Addr) (m : Str → Option Value) (cenv : Env) (ifs : List PySem.Expr) (elt : PySem.Expr) (x y : Str) (v1 : Value) (D C : Addr) (news : List (Addr × Obj))
    (J : Nat → List Value → Prop) (a : Int) (n : Nat) : Prop :=
  ∀ j ys t I1 oI1 I2 oI2 oC m₂ (s : Shared) (E' : Value → Shared → Prop), j < n → J j ys → NsObj oC m₂ → m₂ x = some v1 → m₂ y = some (.int (a + (j : Int)) t) → Fr h₀ L s.heap m →
    News h₀ L s.heap ((I2, oI2) :: (C, oC) :: (I1, oI1) :: (D, lst ys) :: news) →
    wpAny (model prog w) A (forIn ifs true fun c r => if r = true then do let ok ← isTrue c cenv (eval c cenv); pure (ForInStep.yield ok) else pure (ForInStep.yield r))
      (fun ok s' => if ok = true then wpAny (model prog w) A (eval elt cenv) (CEnd h₀ L m s ((I2, oI2) :: (C, oC) :: (I1, oI1) :: (D, lst ys) :: news) (fun z => J (j + 1) (ys ++ [z]))) E' s'
        else CEnd h₀ L m s ((I2, oI2) :: (C, oC) :: (I1, oI1) :: (D, lst ys) :: news) (fun _ => J (j + 1) ys) Value.none s') E' s

theorem loop_in {elt it1 it2 : PySem.Expr} {x y : Str} {px py : Pos} {ifs : List PySem.Expr} {scope : Scope} {pos : Pos} {cenv : Env} {R : Result → Shared → Prop} {s₂ : Shared} {h₀ : Heap} {L I1 I2 C D : Addr} {oI1 : Obj}
    {m m₂ : Str → Option Value} {v1 : Value} {news : List (Addr × Obj)} {ys : List Value} {J : Nat → List Value → Prop} {a : Int} {n : Nat}
    (hh : A.handled = none) (hy : cenv.kindOf y = some .local) (hCe : cenv.locals = C) (hp : (cenv.scope.kind == .class || (cenv.scope.kind == .module && cenv.locals != cenv.globals)) = false) (hxy : x ≠ y)
    (F : Fr h₀ L s₂.heap m) (hn : s₂.heap.Ns C m₂) (hm : m₂ x = some v1) (N : News h₀ L s₂.heap ((I1, oI1) :: (D, lst ys) :: news)) (hit : IsRangeIter s₂.heap I2 a n 1)
    (h2C : I2 ≠ C) (h2D : I2 ≠ D) (h21 : I2 ≠ I1) (hCD : C ≠ D) (hC1 : C ≠ I1) (hD1 : D ≠ I1) (hL2 : L ≠ I2) (hLC : L ≠ C) (hLD : L ≠ D) (h₀2 : h₀.get? I2 = none) (h₀C : h₀.get? C = none) (h₀D : h₀.get? D = none)
    (off : ∀ p ∈ news, p.1 ≠ I2 ∧ p.1 ≠ C ∧ p.1 ≠ D) (j0 : J 0 ys) (hlen : ∀ j ys, J j ys → ys.length ≤ sizeLine)
    (turn : InTurn prog w A h₀ L m cenv ifs elt x y v1 D C news J a n)
    (hR : ∀ h' tk m' ys', Fr h₀ L h' m → h'.Ns C m' → News h₀ L h' ((I1, oI1) :: (D, lst ys') :: news) → J n ys' → R (.ok .next) { s₂ with heap := h', toks := tk }) :
    codeAny (model prog w) A (.compLoop (E2 elt it1 it2 x y px py ifs scope pos) 1 (.ref I2) (.ref D) cenv) R s₂ := by
  subst hCe
  have W := range_walks (prog := prog) (w := w) (A := A) (I := I2) hh a n
  refine codeAny_loop rfl (fun k s' => ∃ h' tk i ys m', s' = { s₂ with heap := h', toks := tk } ∧ i ≤ n ∧ k = n + 1 - i ∧ J i ys ∧ IsRangeIter h' I2 (a + (i : Nat) * 1) ((n : Int) - (i : Nat)) 1 ∧ Fr h₀ L h' m ∧ h'.Ns cenv.locals m' ∧ m' x = some v1 ∧
      News h₀ L h' ((I1, oI1) :: (D, lst ys) :: news)) (fun k s' hI => ?_) (n + 1) ⟨s₂.heap, s₂.toks, 0, ys, m₂, rfl, Nat.zero_le _, rfl, j0, by simpa using hit, F, hn, hm, N⟩
  obtain ⟨h', tk, i, ys, m', rfl, hi, rfl, hJ, hst', F', hn', hm', N'⟩ := hI
  show wpAny _ A ((compTurn (E2 elt it1 it2 x y px py ifs scope pos) 1 (.ref I2) (.ref D) cenv).onRaise (fun x => do noteFrame x cenv; theTreesLotGoes x)) _ _ _
  refine wpAny_noted ?_
  rw [turn_in]
  refine wpAny_bind (wpAny_standAt (wpAny_bind ?_))
  have hN1 : ∀ p ∈ (I1, oI1) :: (D, lst ys) :: news, p.1 ≠ I2 := fun p hp => by
    rcases List.mem_cons.mp hp with rfl | hp
    · exact Ne.symm h21
    · rcases List.mem_cons.mp hp with rfl | hp
      · exact Ne.symm h2D
      · exact (off p hp).1
  by_cases hlt : i < n
  · refine W.item i _ _ _ hlt hst' fun v h₂ tk₂ hPv hst₂ hk₂ => ?_
    obtain ⟨t, rfl⟩ := hPv
    refine wpAny_bind (wpAny_of_eq (a := ()) rfl ?_)
    refine wpAny_bind (wpAny_assign_Name (wpAny_storeName_local hy (hn'.at' fun o e => hk₂ _ o (by simpa using Ne.symm h2C) e) (fun h₃ hn₃ hs₃ => ?_) hp))
    obtain ⟨oC, heC, hoC⟩ := ns_obj hn₃
    have F₃ : Fr h₀ L h₃ m := (fr_but F' hk₂ hL2 h₀2).change hs₃ (Ne.symm hLC) h₀C
    have N₂ := news_but N' hk₂ hN1
    have hst₃ : IsRangeIter h₃ I2 (a + ((i + 1 : Nat) : Int) * 1) ((n : Int) - ((i + 1 : Nat) : Int)) 1 := hs₃.extBut _ _ h2C hst₂
    have N₃ : News h₀ L h₃ ((I2, _) :: (cenv.locals, oC) :: (I1, oI1) :: (D, lst ys) :: news) := fun p hp => by
      rcases List.mem_cons.mp hp with rfl | hp
      · exact ⟨hst₃, Ne.symm hL2, h₀2⟩
      · rcases List.mem_cons.mp hp with rfl | hp
        · exact ⟨heC, Ne.symm hLC, h₀C⟩
        · have z := N₂ p hp
          refine ⟨hs₃.extBut _ _ ?_ z.1, z.2⟩
          rcases List.mem_cons.mp hp with rfl | hp
          · exact Ne.symm hC1
          · rcases List.mem_cons.mp hp with rfl | hp
            · exact Ne.symm hCD
            · exact (off p hp).2.1
    refine wpAny_bind (wpAny_mono (turn i ys t I1 oI1 I2 _ oC _ _ _ hlt hJ hoC (by simp [hxy, hm']) (by simp) F₃ N₃) (fun ok s₄ h₄ => ?_) fun _ _ e => e)
    cases ok with
    | true =>
      simp only [if_true] at h₄ ⊢
      refine wpAny_bind (wpAny_bind (wpAny_mono h₄ (fun z s₅ h₅ => ?_) fun _ _ e => e))
      obtain ⟨h₄, tk₄, rfl, F₄, N₄, J₄⟩ := h₅
      have zI := (N₄ _ (.head _)).1
      have zC := (N₄ _ (.tail _ (.head _))).1
      have zD := (N₄ _ (.tail _ (.tail _ (.tail _ (.head _))))).1
      refine wpAny_bind (append_at (hsz := by show ys.toArray.size ≤ sizeLine; rw [List.size_toArray]; exact hlen _ _ hJ) zD fun h₅ hs₅ hD₅ => ?_)
      refine wpAny_pure (wpAny_pure ⟨rfl, n + 1 - (i + 1), by omega, h₅, tk₄, i + 1, ys ++ [z], _, rfl, hlt, rfl, J₄, hs₅.extBut _ _ h2D zI, F₄.change hs₅ (Ne.symm hLD) h₀D, (hoC.ns zC).sameBut hs₅ hCD, by simp [hxy, hm'], fun p hp => ?_⟩)
      rcases List.mem_cons.mp hp with rfl | hp
      · have zz := N₄ _ (.tail _ (.tail _ (.head _)))
        exact ⟨hs₅.extBut _ _ (Ne.symm hD1) zz.1, zz.2⟩
      · rcases List.mem_cons.mp hp with rfl | hp
        · exact ⟨hD₅.trans (congrArg some (lst_snoc ys z)), Ne.symm hLD, h₀D⟩
        · have zz := N₄ _ (.tail _ (.tail _ (.tail _ (.tail _ hp))))
          exact ⟨hs₅.extBut _ _ (off p hp).2.2 zz.1, zz.2⟩
    | false =>
      simp only [Bool.false_eq_true, if_false] at h₄ ⊢
      obtain ⟨h₄, tk₄, rfl, F₄, N₄, J₄⟩ := h₄
      have zI := (N₄ _ (.head _)).1
      have zC := (N₄ _ (.tail _ (.head _))).1
      exact wpAny_pure ⟨rfl, n + 1 - (i + 1), by omega, h₄, tk₄, i + 1, ys, _, rfl, hlt, rfl, J₄, zI, F₄, hoC.ns zC, by simp [hxy, hm'], fun p hp => N₄ p (.tail _ (.tail _ hp))⟩
  · obtain rfl : i = n := Nat.le_antisymm hi (Nat.not_lt.mp hlt)
    refine W.done _ _ _ hst' fun h₂ tk₂ hk₂ => ?_
    exact wpAny_pure (hR h₂ tk₂ m' ys (fr_but F' hk₂ hL2 h₀2) (hn'.at' fun o e => hk₂ _ o (by simpa using Ne.symm h2C) e) (news_but N' hk₂ hN1) hJ)
end
end Mine
end

section
open PySem PySem.W PyProof.Rows PySem.Calls PySem.Spec
open PyProof.Rows.LCg
set_option Elab.async false
set_option maxHeartbeats 1000000
namespace Mine
def Src1 (prog : Program) (w : World) (A : Around) (h₀ : Heap) (L : Addr) (m : Str → Option Value) (cenv : Env) (ifs : List PySem.Expr) (elt : PySem.Expr) (x y : Str) (v1 : Value) (D C : Addr) (news : List (Addr × Obj))
    (J' : List Value → Prop) (ys : List Value) (all : List (Addr × Obj)) (s : Shared) (xv : Value) (s' : Shared) : Prop :=
  ∃ r a b t u v n J h' tk', xv = .ref r ∧ s' = { s with heap := h', toks := tk' } ∧ Fr h₀ L h' m ∧ News h₀ L h' all ∧ IsRange h' r a b 1 t u v ∧ Builtin.Range.small a b 1 = true ∧ Builtin.Range.rangeSize a b 1 = ((n : Nat) : Int) ∧
    J 0 ys ∧ (∀ zs, J n zs → J' zs) ∧ (∀ j zs, J j zs → zs.length ≤ sizeLine) ∧ InTurn prog w A h₀ L m cenv ifs elt x y v1 D C news J a n

def OutTurn (prog : Program) (w : World) (A : Around) (h₀ : Heap) (L : Addr) (m : Str → Option Value) (cenv : Addr → Env) (ifs : List PySem.Expr) (elt it2 : PySem.Expr) (x y : Str) (news : List (Addr × Obj))
    (J : Nat → List Value → Prop) (a st : Int) (n : Nat) : Prop :=
  ∀ i ys t I1 oI1 C oC D m₂ (s : Shared) (E' : Value → Shared → Prop), i < n → J i ys → NsObj oC m₂ → m₂ x = some (.int (a + (i : Int) * st) t) → Fr h₀ L s.heap m →
    News h₀ L s.heap ((I1, oI1) :: (C, oC) :: (D, lst ys) :: news) →
    wpAny (model prog w) A (eval it2 (cenv C)) (Src1 prog w A h₀ L m (cenv C) ifs elt x y (.int (a + (i : Int) * st) t) D C news (J (i + 1)) ys ((I1, oI1) :: (C, oC) :: (D, lst ys) :: news) s) E' s

section
variable {prog : Program} {w : World} {A : Around}
theorem loop_out {elt it1 it2 : PySem.Expr} {x y : Str} {px py : Pos} {ifs : List PySem.Expr} {scope : Scope} {pos : Pos} {cenv : Addr → Env} {R : Result → Shared → Prop} {s₂ : Shared} {h₀ : Heap} {L I1 C D : Addr}
    {m m₂ : Str → Option Value} {news : List (Addr × Obj)} {J : Nat → List Value → Prop} {a st : Int} {n : Nat}
    (hh : A.handled = none) (hx : (cenv C).kindOf x = some .local) (hy : (cenv C).kindOf y = some .local) (hCe : (cenv C).locals = C) (hp : ((cenv C).scope.kind == .class || ((cenv C).scope.kind == .module && (cenv C).locals != (cenv C).globals)) = false) (hxy : x ≠ y)
    (hs2 : ∀ z, foldedSetIterable it2 (cenv C) z = pure z)
    (F : Fr h₀ L s₂.heap m) (hn : s₂.heap.Ns C m₂) (N : News h₀ L s₂.heap ((D, lst []) :: news)) (hit : IsRangeIter s₂.heap I1 a n st)
    (hCD : C ≠ D) (hC1 : C ≠ I1) (hD1 : D ≠ I1) (hL1 : L ≠ I1) (hLC : L ≠ C) (hLD : L ≠ D) (h₀1 : h₀.get? I1 = none) (h₀C : h₀.get? C = none) (h₀D : h₀.get? D = none)
    (off : ∀ p ∈ news, p.1 ≠ I1 ∧ p.1 ≠ C ∧ p.1 ≠ D) (j0 : J 0 [])
    (turn : OutTurn prog w A h₀ L m cenv ifs elt it2 x y news J a st n)
    (hR : ∀ h' tk m' ys', Fr h₀ L h' m → h'.Ns C m' → News h₀ L h' ((D, lst ys') :: news) → J n ys' → R (.ok .next) { s₂ with heap := h', toks := tk }) :
    codeAny (model prog w) A (.compLoop (E2 elt it1 it2 x y px py ifs scope pos) 0 (.ref I1) (.ref D) (cenv C)) R s₂ := by
  have W := Walks.range (prog := prog) (w := w) (A := A) hh I1 a st n
  refine codeAny_loop rfl (fun k s' => ∃ h' tk i ys m', s' = { s₂ with heap := h', toks := tk } ∧ i ≤ n ∧ k = n + 1 - i ∧ J i ys ∧ IsRangeIter h' I1 (a + (i : Nat) * st) ((n : Int) - (i : Nat)) st ∧ Fr h₀ L h' m ∧ h'.Ns C m' ∧
      News h₀ L h' ((D, lst ys) :: news)) (fun k s' hI => ?_) (n + 1) ⟨s₂.heap, s₂.toks, 0, [], m₂, rfl, Nat.zero_le _, rfl, j0, by simpa using hit, F, hn, N⟩
  obtain ⟨h', tk, i, ys, m', rfl, hi, rfl, hJ, hst', F', hn', N'⟩ := hI
  show wpAny _ A ((compTurn (E2 elt it1 it2 x y px py ifs scope pos) 0 (.ref I1) (.ref D) (cenv C)).onRaise (fun x => do noteFrame x (cenv C); theTreesLotGoes x)) _ _ _
  refine wpAny_noted ?_
  rw [turn_out]
  refine wpAny_bind (wpAny_standAt (wpAny_bind ?_))
  have hN1 : ∀ p ∈ (D, lst ys) :: news, p.1 ≠ I1 := fun p hp => by
    rcases List.mem_cons.mp hp with rfl | hp
    · exact hD1
    · exact (off p hp).1
  by_cases hlt : i < n
  · refine W.item i _ _ _ hlt hst' fun v h₂ tk₂ hPv hst₂ hk₂ => ?_
    obtain ⟨t, rfl⟩ := hPv
    refine wpAny_bind (wpAny_of_eq (a := ()) rfl ?_)
    refine wpAny_bind (wpAny_assign_Name (wpAny_storeName_local hx (by rw [hCe]; exact hn'.at' fun o e => hk₂ _ o (by simpa using hC1) e) (fun h₃ hn₃ hs₃ => ?_) hp))
    rw [hCe] at hn₃ hs₃
    obtain ⟨oC, heC, hoC⟩ := ns_obj hn₃
    have F₃ : Fr h₀ L h₃ m := (fr_but F' hk₂ hL1 h₀1).change hs₃ (Ne.symm hLC) h₀C
    have N₂ := news_but N' hk₂ hN1
    have hst₃ : IsRangeIter h₃ I1 (a + ((i + 1 : Nat) : Int) * st) ((n : Int) - ((i + 1 : Nat) : Int)) st := hs₃.extBut _ _ (Ne.symm hC1) hst₂
    have N₃ : News h₀ L h₃ ((I1, _) :: (C, oC) :: (D, lst ys) :: news) := fun p hp => by
      rcases List.mem_cons.mp hp with rfl | hp
      · exact ⟨hst₃, Ne.symm hL1, h₀1⟩
      · rcases List.mem_cons.mp hp with rfl | hp
        · exact ⟨heC, Ne.symm hLC, h₀C⟩
        · have z := N₂ p hp
          refine ⟨hs₃.extBut _ _ ?_ z.1, z.2⟩
          rcases List.mem_cons.mp hp with rfl | hp
          · exact Ne.symm hCD
          · exact (off p hp).2.1
    refine wpAny_bind (wpAny_mono (turn i ys t I1 _ C oC D _ _ _ hlt hJ hoC (by simp) F₃ N₃) (fun xv s₄ h₄ => ?_) fun _ _ e => e)
    obtain ⟨r, a2, b2, t2, u2, v2, n2, J2, h₄, tk₄, rfl, rfl, F₄, N₄, hr, hsm, hsz, J0, hJn, hlen, inT⟩ := h₄
    refine wpAny_bind (wpAny_standAt (wpAny_bind (wpAny_of_eq (hs2 _) ?_)))
    refine wpAny_bind (wpAny_holding (wpAny_pyIter_range hr hsm ?_))
    have hC4 := (N₄ _ (.tail _ (.head _))).1
    have hD4 := (N₄ _ (.tail _ (.tail _ (.head _)))).1
    have h14 := (N₄ _ (.head _)).1
    have up : ∀ b o, h₄.get? b = some o → (h₄.push { cls := .type "range_iterator", data := .fields #[rawInt a2, rawInt (Builtin.Range.rangeSize a2 b2 1), rawInt 1] }).get? b = some o := fun b o e => Heap.get?_push_of_some _ e
    have F₅ := F₄.keeps up
    have N₅ := News.grown N₄ up
    have hne : ∀ b o, h₄.get? b = some o → b ≠ h₄.objs.size := fun b o e => Nat.ne_of_lt (Heap.lt_size e)
    have hit2 : IsRangeIter (h₄.push { cls := .type "range_iterator", data := .fields #[rawInt a2, rawInt (Builtin.Range.rangeSize a2 b2 1), rawInt 1] }) h₄.objs.size a2 n2 1 := by
      show (h₄.push _).get? h₄.objs.size = some _
      rw [hsz]
      exact Heap.get?_push_size _ rfl
    have loop := loop_in (elt := elt) (it1 := it1) (it2 := it2) (px := px) (py := py) (ifs := ifs) (scope := scope) (pos := pos) (cenv := cenv C) (s₂ := { s₂ with heap := h₄.push { cls := .type "range_iterator", data := .fields #[rawInt a2, rawInt (Builtin.Range.rangeSize a2 b2 1), rawInt 1] }, toks := tk₄ })
      (R := fun r s' => match r with | .ok f => (∃ q, q < n + 1 - i ∧ (fun k s' => ∃ h' tk i ys m', s' = { s₂ with heap := h', toks := tk } ∧ i ≤ n ∧ k = n + 1 - i ∧ J i ys ∧ IsRangeIter h' I1 (a + (i : Nat) * st) ((n : Int) - (i : Nat)) st ∧ Fr h₀ L h' m ∧ h'.Ns C m' ∧ News h₀ L h' ((D, lst ys) :: news)) q s') | .error e => cameBackBy (model prog w) A (cenv C) (notedBy (model prog w) A (cenv C) fun e s' => R (.error e) s') e s')
      hh hy hCe hp hxy F₅ ((hoC.ns hC4).at' fun o e => up _ o e) (by simp) (News.drop N₅ (by
        intro p hp
        rcases List.mem_cons.mp hp with rfl | hp
        · exact .head _
        · exact .tail _ (.tail _ hp))) hit2 (Ne.symm (hne _ _ hC4)) (Ne.symm (hne _ _ hD4)) (Ne.symm (hne _ _ h14)) hCD hC1 hD1 (Nat.ne_of_lt F₄.ns.lt) hLC hLD (next_is_new F₄) h₀C h₀D
      (fun p hp => ⟨hne _ _ (N₄ p (.tail _ (.tail _ (.tail _ hp)))).1, (off p hp).2⟩) J0 hlen inT ?_
    · refine wpAny_bind (wpAny_runOwn (codeAny_mono (start_in loop (wpAny_pyIter_rangeiter hit2 loop)) fun r s' hr => ?_))
      cases r with
      | error e => exact hr
      | ok f => exact wpAny_pure ⟨rfl, hr⟩
    · intro h₅ tk₅ m₅ ys₅ F₆ hn₆ N₆ J₆
      exact ⟨n + 1 - (i + 1), by omega, h₅, tk₅, i + 1, ys₅, m₅, rfl, hlt, rfl, hJn _ J₆, (N₆ _ (.head _)).1, F₆, hn₆, fun p hp => N₆ p (.tail _ hp)⟩
  · obtain rfl : i = n := Nat.le_antisymm hi (Nat.not_lt.mp hlt)
    refine W.done _ _ _ hst' fun h₂ tk₂ hk₂ => ?_
    exact wpAny_pure (hR h₂ tk₂ m' ys (fr_but F' hk₂ hL1 h₀1) (hn'.at' fun o e => hk₂ _ o (by simpa using hC1) e) (news_but N' hk₂ hN1) hJ)
end
end Mine
end

section
open PySem PySem.W PyProof.Rows PySem.Calls PySem.Spec
open PyProof.Rows.LCg
set_option Elab.async false
set_option maxHeartbeats 1000000
namespace Mine
def Src2 (prog : Program) (w : World) (A : Around) (h₀ : Heap) (L : Addr) (m : Str → Option Value) (cenv : Addr → Env) (ifs : List PySem.Expr) (elt it2 : PySem.Expr) (x y : Str) (Q : Value → Shared → Prop) (xv : Value) (s : Shared) : Prop :=
  ∃ r a b st t u v n news J, xv = .ref r ∧ Fr h₀ L s.heap m ∧ News h₀ L s.heap news ∧ IsRange s.heap r a b st t u v ∧ Builtin.Range.small a b st = true ∧ Builtin.Range.rangeSize a b st = ((n : Nat) : Int) ∧
    J 0 [] ∧ OutTurn prog w A h₀ L m cenv ifs elt it2 x y news J a st n ∧
    (∀ D h tk ys, J n ys → Fr h₀ L h m → News h₀ L h ((D, lst ys) :: news) → (∀ p ∈ news, @Ne Nat p.1 D) → @LT.lt Nat _ L D → Q (.ref D) { s with heap := h, toks := tk })

section
variable {prog : Program} {w : World} {A : Around}
theorem ListComp_2 {elt it1 it2 : PySem.Expr} {x y : Str} {px py : Pos} {ifs : List PySem.Expr} {scope : Scope} {cl : List (Str × Addr)} {pos : Pos} {env : Env} {h₀ : Heap} {L : Addr} {m : Str → Option Value} {s : Shared} {Q E : Value → Shared → Prop}
    (F₀ : Fr h₀ L s.heap m) (hh : A.handled = none) (hclos : closureFor scope env = pure cl) (hcell : ∀ z ∈ scope.names, z.2 ≠ .cell) (hkind : scope.kind = .function)
    (hnames : ∀ z ∈ scope.names, z.2 = .local → scope.names.lookup z.1 = some .local) (hx : scope.names.lookup x = some .local) (hy : scope.names.lookup y = some .local) (hxy : x ≠ y)
    (h : wpAny (model prog w) A (eval it1 env) (Src2 prog w A h₀ L m (fun C => compEnvC scope cl C env) ifs elt it2 x y Q) E s)
    (hs1 : ∀ z, foldedSetIterable it1 env z = pure z) (hs2 : ∀ C z, foldedSetIterable it2 (compEnvC scope cl C env) z = pure z) :
    wpAny (model prog w) A (eval (E2 elt it1 it2 x y px py ifs scope pos) env) Q E s := by
  rw [eval_ListComp]
  refine wpAny_comprehension_free (use := none) rfl hs1 hclos hkind hnames (wpAny_mono h (fun xv s₁ h₁ => ?_) fun _ _ e => e)
  obtain ⟨r, a, b, st, t, u, v, n, news, J, rfl, F, N, hr, hsm, hsz, j0, turn, fin⟩ := h₁
  refine wpAny_pyIter_range hr hsm ?_
  have up : ∀ b' o, s₁.heap.get? b' = some o → (s₁.heap.push { cls := .type "range_iterator", data := .fields #[rawInt a, rawInt (Builtin.Range.rangeSize a b st), rawInt st] }).get? b' = some o := fun b' o e => Heap.get?_push_of_some _ e
  have F₂ := F.keeps up
  have N₂ := News.grown N up
  have hit : IsRangeIter (s₁.heap.push { cls := .type "range_iterator", data := .fields #[rawInt a, rawInt (Builtin.Range.rangeSize a b st), rawInt st] }) s₁.heap.objs.size a n st := by
    show (s₁.heap.push _).get? s₁.heap.objs.size = some _
    rw [hsz]
    exact Heap.get?_push_size _ rfl
  have hI₀ := next_is_new F
  have off1 : ∀ p ∈ news, p.1 ≠ s₁.heap.objs.size := fun p hp => Nat.ne_of_lt (Heap.lt_size (N p hp).1)
  have hL1 : L ≠ s₁.heap.objs.size := Nat.ne_of_lt F.ns.lt
  have hLs : L < s₁.heap.objs.size := F.ns.lt
  have hH1s : (s₁.heap.push { cls := .type "range_iterator", data := .fields #[rawInt a, rawInt (Builtin.Range.rangeSize a b st), rawInt st] }).objs.size = s₁.heap.objs.size + 1 := Heap.size_push _ _
  generalize s₁.heap.push { cls := .type "range_iterator", data := .fields #[rawInt a, rawInt (Builtin.Range.rangeSize a b st), rawInt st] } = H1 at up F₂ N₂ hit hH1s ⊢
  have hI1 : s₁.heap.objs.size < H1.objs.size := by rw [hH1s]; exact Nat.lt_succ_self _
  generalize s₁.heap.objs.size = I1 at *
  refine wpAny_newObj_type (wpAny_newFunctionEnv hcell (by intro y hy; simp at hy) (fun h₁ hns₁ hsb₁ => ?_) hkind)
  dsimp only at hns₁ hsb₁ ⊢
  generalize hH2 : H1.push { cls := .type "list", dict := none, data := .seq ([] : List Value).toArray } = H2 at hns₁ hsb₁ ⊢
  have hC : H2.objs.size = H1.objs.size + 1 := by rw [← hH2, Heap.size_push]
  have hDC : H1.objs.size ≠ H2.objs.size := by rw [hC]; exact Nat.ne_of_lt (Nat.lt_succ_self _)
  have below : ∀ b, b < H1.objs.size → b ≠ H2.objs.size ∧ b ≠ H1.objs.size := fun b hb => ⟨by rw [hC]; exact Nat.ne_of_lt (Nat.lt_succ_of_lt hb), Nat.ne_of_lt hb⟩
  have old : ∀ b o, H1.get? b = some o → h₁.get? b = some o := fun b o e => hsb₁.extBut b o (below b (Heap.lt_size e)).1 (Heap.get?_push_of_some _ (hH2 ▸ Heap.get?_push_of_some _ e))
  have hacc : h₁.get? H1.objs.size = some (lst []) := hsb₁.extBut _ _ hDC (Heap.get?_push_of_some _ (hH2 ▸ Heap.get?_push_size _ rfl))
  have fresh : ∀ a, H1.objs.size ≤ a → H1.get? a = none := fun a ha => by
    cases e : H1.get? a with
    | none => rfl
    | some o' => exact absurd (Heap.lt_size e) (Nat.not_lt.mpr ha)
  have fresh₀ : ∀ a, H1.objs.size ≤ a → h₀.get? a = none := fun a ha => by
    cases e : h₀.get? a with
    | none => rfl
    | some o' => have := F₂.keep a o' e; rw [fresh a ha] at this; cases this
  have hD₀ : h₀.get? H1.objs.size = none := fresh₀ _ (Nat.le_refl _)
  have hC₀ : h₀.get? H2.objs.size = none := fresh₀ _ (by rw [hC]; exact Nat.le_succ _)
  have hLlt : L < H1.objs.size := Nat.lt_trans hLs hI1
  have offN : ∀ p ∈ news, p.1 < H1.objs.size := fun p hp => Heap.lt_size (N₂ p hp).1
  have loop : ∀ s₃ : Shared, s₃ = { s₁ with heap := h₁, toks := s₁.toks + ([] : List (Str × Value)).length } →
      codeAny (model prog w) A (.compLoop (E2 elt it1 it2 x y px py ifs scope pos) 0 (.ref I1) (.ref H1.objs.size) (compEnvC scope cl H2.objs.size env))
        (compPost (model prog w) A E none Q (.ref H1.objs.size) H2.objs.size) s₃ := by
    rintro s₃ rfl
    refine loop_out (cenv := fun C => compEnvC scope cl C env) (C := H2.objs.size) (news := news) (J := J) hh (lookup_relabel_local hx) (lookup_relabel_local hy) rfl (by simp [compEnvC, relabel, hkind]) hxy (hs2 _) (F₂.keeps old) hns₁ ?_ (old _ _ hit)
      (Ne.symm hDC) (Ne.symm (below _ hI1).1) (Ne.symm (below _ hI1).2) hL1 (below _ hLlt).1 (below _ hLlt).2 hI₀ hC₀ hD₀ (fun p hp => ⟨off1 p hp, (below _ (offN p hp)).1, (below _ (offN p hp)).2⟩) j0 turn ?_
    · intro p hp
      rcases List.mem_cons.mp hp with rfl | hp
      · exact ⟨hacc, Ne.symm (below _ hLlt).2, hD₀⟩
      · exact ⟨old _ _ (N₂ p hp).1, (N₂ p hp).2⟩
    · intro h' tk m' ys' F' hn' N' J'
      refine ⟨m', hn', fun h'' hs'' => fin _ h'' tk ys' J' (F'.change hs'' (Ne.symm (below _ hLlt).1) hC₀) (fun p hp => ?_) (fun p hp => (below _ (offN p hp)).2) hLlt⟩
      refine ⟨hs''.extBut _ _ ?_ (N' p hp).1, (N' p hp).2⟩
      rcases List.mem_cons.mp hp with rfl | hp
      · exact hDC
      · exact (below _ (offN p hp)).1
  exact codeAny_compStart_list (loop _ rfl) (wpAny_pyIter_rangeiter (old _ _ hit) (loop _ rfl))
end
end Mine
end

section
set_option Elab.async false
set_option maxRecDepth 100000
set_option maxHeartbeats 4000000
namespace Mine
open PySem PySem.W PyProof.Rows
/-- how many points of one column lie below the line -/
def colC (O V i : Nat) : Nat → Nat
  | 0 => 0
  | j + 1 => colC O V i j + if (1 + (j : Int)) * (O : Int) ≤ (1 + (i : Int) * 1) * (V : Int) then 1 else 0
def allC (O V : Nat) : Nat → Nat
  | 0 => 0
  | i + 1 => allC O V i + colC O V i V
theorem colC_le (O V i : Nat) : ∀ j, colC O V i j ≤ j
  | 0 => Nat.le_refl _
  | j + 1 => by
    have := colC_le O V i j
    rw [colC]
    split <;> omega
theorem allC_le (O V : Nat) : ∀ i, allC O V i ≤ i * V
  | 0 => by simp [allC]
  | i + 1 => by
    have h1 := allC_le O V i
    have h2 := colC_le O V i V
    rw [allC, Nat.add_mul]
    omega
def cntB (O V : Nat) : Bool := decide ((allC O V (O - 1) : Int) = sq O V 0 O)
theorem cntB_all : allSmall cntB = true := by decide +kernel
theorem law_count {O V : Nat} (hO1 : 1 ≤ O) (hO2 : O ≤ 15) (hV1 : 1 ≤ V) (hV2 : V ≤ 15) : (allC O V (O - 1) : Int) = sq O V 0 O := by
  have h := of_allSmall cntB_all hO1 hO2 hV1 hV2
  simpa [cntB] using h

/-- the multiples of the shared part, as the second list holds them -/
def mulL (S : Nat) : Nat → List Int
  | 0 => []
  | i + 1 => mulL S i ++ List.replicate S (0 + (i : Int) * (S : Int))
def insI (x : Int) : List Int → List Int
  | [] => [x]
  | a :: r => if x ≤ a then x :: a :: r else a :: insI x r
def sortI : List Int → List Int
  | [] => []
  | a :: r => insI a (sortI r)
theorem insI_perm (x : Int) : ∀ l, (insI x l).Perm (x :: l)
  | [] => .refl _
  | a :: r => by
    rw [insI]
    split
    · exact .refl _
    · exact ((insI_perm x r).cons a).trans (.swap x a r)
theorem sortI_perm : ∀ l, (sortI l).Perm l
  | [] => .refl _
  | a :: r => (insI_perm a (sortI r)).trans ((sortI_perm r).cons a)
def resM (O V : Nat) : List Int := List.map (fun k' => (k' * (V : Int)).fmod (O : Int)) (rangeKs 0 ((O : Int) - 0).toNat)
def resB (O V : Nat) : Bool := decide (sortI (resM O V) = mulL (Nat.gcd O V) (O / Nat.gcd O V))
theorem resB_all : allSmall resB = true := by decide +kernel
theorem law_res {O V : Nat} (hO1 : 1 ≤ O) (hO2 : O ≤ 15) (hV1 : 1 ≤ V) (hV2 : V ≤ 15) : (resM O V).Perm (mulL (Nat.gcd O V) (O / Nat.gcd O V)) := by
  have h := of_allSmall resB_all hO1 hO2 hV1 hV2
  simp only [resB, decide_eq_true_eq] at h
  exact h ▸ (sortI_perm _).symm
theorem ints_snoc {k : Int} {t : Tok} : ∀ {vs : List Value} {ns : List Int}, IntsAre vs ns → IntsAre (vs ++ [.int k t]) (ns ++ [k])
  | _, _, .nil => .cons k t .nil
  | _, _, .cons z u r => .cons z u (ints_snoc r)
def rngB (O V : Nat) : Bool := decide (Builtin.Range.small 0 O (Nat.gcd O V : Nat) = true) && decide (Builtin.Range.rangeSize 0 O (Nat.gcd O V : Nat) = ((O / Nat.gcd O V : Nat) : Int)) && decide ((O / Nat.gcd O V) * Nat.gcd O V = O) && decide (1 ≤ Nat.gcd O V) && decide (Nat.gcd O V ≤ 15)
theorem rngB_all : allSmall rngB = true := by decide +kernel
theorem law_rng {O V : Nat} (hO1 : 1 ≤ O) (hO2 : O ≤ 15) (hV1 : 1 ≤ V) (hV2 : V ≤ 15) :
    Builtin.Range.small 0 O (Nat.gcd O V : Nat) = true ∧ Builtin.Range.rangeSize 0 O (Nat.gcd O V : Nat) = ((O / Nat.gcd O V : Nat) : Int) ∧ (O / Nat.gcd O V) * Nat.gcd O V = O ∧ 1 ≤ Nat.gcd O V ∧ Nat.gcd O V ≤ 15 := by
  have h := of_allSmall rngB_all hO1 hO2 hV1 hV2
  simp only [rngB, Bool.and_eq_true, decide_eq_true_eq] at h
  exact ⟨h.1.1.1.1, h.1.1.1.2, h.1.1.2, h.1.2, h.2⟩
theorem mulL_length (S : Nat) : ∀ i, (mulL S i).length = i * S
  | 0 => by simp [mulL]
  | i + 1 => by rw [mulL, List.length_append, mulL_length S i, List.length_replicate, Nat.add_mul, Nat.one_mul]
end Mine
end

section
open PySem PySem.W PyProof.Rows PySem.Calls PySem.Spec
set_option Elab.async false
set_option maxRecDepth 100000
set_option maxHeartbeats 1000000
namespace Mine
theorem bne_false {a b : Int} (h : a = b) : (a != b) = false := by simp [h]
theorem rest_nat {rest : List (Addr × Obj)} {D x1 x2 : Addr} (h : ∀ q ∈ rest, q.1 ≠ D ∧ q.1 ≠ x1 ∧ q.1 ≠ x2) : ∀ q ∈ rest, @Ne Nat q.1 D ∧ @Ne Nat q.1 x1 ∧ @Ne Nat q.1 x2 := h
/-- the same call in the law's own frame -/
theorem c_whL {w : World} {nm : Str} {sc : Scope} {base : Heap} {L : Addr} {m : Str → Option Value} {s : Shared} {Q E : Value → Shared → Prop} {ccd : Value} {fa : Addr}
  {p : Program} {loose : List Str} {mean : ExcName → Option Value} {mg mb : Str → Option Value} {p1 p2 : Array Value} {x1 x2 : Addr} {o1 o2 : Obj} {rest : List (Addr × Obj)} {ci bi si : Int} {tc tb ts : Tok} (c b sh : Nat)
  (B : Below callerA base [] base) (F : Fr base L s.heap m) (X : (hd.heap_39 w.params).In base) (T : Top p loose mean mg mb base) (CH1 : CodeHd base 48 44) (CH2 : CodeHd base 55 51) (hk : sc.kind = .function)
  (N0 : News base L s.heap ((44, tabObj p1) :: (x1, o1) :: (51, tabObj p2) :: (x2, o2) :: rest)) (ts1 : TS 44 50 4 q1 p1 x1 o1) (ts2 : TS 51 65 4 q2 p2 x2 o2) (hR : ∀ q ∈ rest, @Ne Nat q.1 44 ∧ @Ne Nat q.1 x1 ∧ @Ne Nat q.1 51 ∧ @Ne Nat q.1 x2)
  (eci : ci = (c : Int)) (ebi : bi = (b : Int)) (esi : si = (sh : Int)) (hc1 : 1 ≤ c) (hc2 : c < 16) (hb2 : b ≤ 30) (hs2 : sh < 1000)
  (ret : ∀ (D : Addr) (t1 t2 t3 : Tok) (nn : Nat) (p1' p2' : Array Value) (x1' x2' : Addr) (o1' o2' : Obj) (h' : Heap) (tk' : Nat), Fr base L h' m →
    News base L h' ((D, tupO [.int (sq c b sh c) t1, .int (sr c b sh c) t2, .int (c : Int) t3] nn) :: (44, tabObj p1') :: (x1', o1') :: (51, tabObj p2') :: (x2', o2') :: rest) → TS 44 50 4 q1 p1' x1' o1' → TS 51 65 4 q2 p2' x2' o2' →
    (@LT.lt Nat _ 44 D ∧ @LT.lt Nat _ x1' D ∧ @LT.lt Nat _ 51 D ∧ @LT.lt Nat _ x2' D) → (∀ q ∈ rest, @Ne Nat q.1 D ∧ @Ne Nat q.1 x1' ∧ @Ne Nat q.1 x2') → Q (.ref D) { s with heap := h', toks := tk' }) :
  wpAny (model PySem.Challenge.rw_hz0003_01.row.prog w) (callerA.deeper (envOfC nm sc L fa ccd)) (call (.ref 84) [.int ci tc, .int bi tb, .int si ts]) Q E s := by
  refine c_wh (rest := rest) c b sh B F X T CH1 CH2 hk (News.drop N0 (by k_allIn)) ts1 ts2 (News.drop N0 fun q hq => .tail _ (.tail _ (.tail _ (.tail _ hq)))) hR eci ebi esi hc1 hc2 hb2 hs2 ?_ ?_ ?_
  · show callerA.depth + 1 + 60 < recursionLimit
    decide
  · show callerA.units + 3 + 500 < cLine
    decide
  intro D t1 t2 t3 nn p1' p2' x1' x2' o1' o2' h' tk' F' N' ts1' ts2' NR' hD hrs
  exact ret D t1 t2 t3 nn p1' p2' x1' x2' o1' o2' h' tk' F' (News.app N' NR') ts1' ts2' hD hrs


/-- what the law's own loop keeps -/
def Jl (L l I : Addr) (m : Str → Option Value) (news : List (Addr × Obj)) : Prop :=
  m (Str.ofString "script") = some (.ref l) ∧ ∃ (p1 p2 : Array Value) (x1 x2 : Addr) (o1 o2 oS oV oO : Obj) (vS vV vO : Option Value),
    news = [(L + 1 + 1 + 1, oS), (L + 1 + 1, oV), (L + 1, oO), (44, tabObj p1), (x1, o1), (51, tabObj p2), (x2, o2)] ∧ TS 44 50 4 q1 p1 x1 o1 ∧ TS 51 65 4 q2 p2 x2 o2 ∧
    oS.data = .cell vS ∧ oV.data = .cell vV ∧ oO.data = .cell vO ∧ @LT.lt Nat _ (L + 1 + 1 + 1) I ∧
    (@Ne Nat x1 (L + 1) ∧ @Ne Nat x1 (L + 1 + 1) ∧ @Ne Nat x1 (L + 1 + 1 + 1) ∧ @Ne Nat x1 I) ∧ (@Ne Nat x2 (L + 1) ∧ @Ne Nat x2 (L + 1 + 1) ∧ @Ne Nat x2 (L + 1 + 1 + 1) ∧ @Ne Nat x2 I)
end Mine
end

section
open PySem PySem.W PyProof.Rows PySem.Calls PySem.Spec
open PyProof.Rows.LCg
set_option Elab.async false
set_option maxRecDepth 100000
set_option maxHeartbeats 4000000
namespace Mine
local macro_rules | `(tactic| k_all) => `(tactic| first | exact List.forall_mem_nil _ | (refine' List.forall_mem_cons.mpr ⟨?a, ?b⟩; (case a => k_ne); (case b => k_all)))
local macro_rules | `(tactic| walk_at "execs cons") => `(tactic| (k_here; (try dsimp only); k_gentoks))
local macro_rules | `(tactic| walk_at "execs nil") => `(tactic| (k_here; (try dsimp only); k_gentoks))
local macro_rules | `(tactic| walk_at "call ref") => `(tactic| ((with_reducible show wpAny _ _ (call (Value.ref 84) _) _ _ _); refine hold_at ?_))
local macro_rules | `(tactic| walk_at "eval ListComp") => `(tactic| ((with_reducible show wpAny _ _ (eval (PySem.Expr.ListComp _ (_ :: _ :: _) _ _) _) _ _ _); refine hold_at ?_))
theorem c_part7 {w : World} {nm ql kx : Str} {ps : Arguments} {it1 : PySem.Expr} {kp fpos : Pos} {S0 S1 S2 S3 S4 S5 S6 sret : Stmt} {sc : Scope} {body : List Stmt} {dV kV doc0 pm0 cdv ct0 oc0 : Value} {an0 od0 : Option Addr} {osl : Array (Option Value)}
  (hlk : (hd.heap_39 w.params).lookup 89 = some ⟨oc0, od0, .func (fnOf nm ql ps [.For (.Name kx kp) it1 (S0 :: S1 :: S2 :: S3 :: S4 :: S5 :: S6 :: body) [] fpos, sret] sc dV kV doc0 pm0 an0 cdv ct0), osl⟩)
  {base : Heap} {L l I D3 D4 : Addr} {m : Str → Option Value} {s s₁ : Shared} {Q : Flow → Shared → Prop} {E : Value → Shared → Prop} {ccd : Value} {fa : Addr}
  {p : Program} {loose : List Str} {mean : ExcName → Option Value} {mg mb : Str → Option Value} {p1 p2 : Array Value} {x1 x2 : Addr} {o1 o2 oS oV oO it : Obj} {tS tO tV tN u3a u3b u3c u4a u4b u4c : Tok} {n3 n4 : Nat} {O V Nu : Nat}
  (B : Below callerA base [] base) (X : (hd.heap_39 w.params).In base) (T : Top p loose mean mg mb base) (CH1 : CodeHd base 48 44) (CH2 : CodeHd base 55 51)
  (F : Fr base L s.heap (fun y => if y = Str.ofString "left" then some (.ref D3) else if y = Str.ofString "right" then some (.ref D4) else kstB m [(Str.ofString "script", .ref l), (Str.ofString "number", .int (Nu : Int) tN)] y))
  (N : News base L s.heap [(D4, tupO [.int (sq V O 0 V) u4a, .int (sr V O 0 V) u4b, .int (V : Int) u4c] n4), (44, tabObj p1), (x1, o1), (51, tabObj p2), (x2, o2), (I, it), (L + 1 + 1 + 1, oS), (L + 1 + 1, oV), (L + 1, oO),
    (D3, tupO [.int (sq O V 0 O) u3a, .int (sr O V 0 O) u3b, .int (O : Int) u3c] n3)])
  (ts1 : TS 44 50 4 q1 p1 x1 o1) (ts2 : TS 51 65 4 q2 p2 x2 o2) (hS : oS.data = .cell (some (.int (O.gcd V : Nat) tS))) (hV : oV.data = .cell (some (.int (V : Int) tV))) (hO : oO.data = .cell (some (.int (O : Int) tO)))
  (hO1 : 1 ≤ O) (hO2 : O ≤ 15) (hV1 : 1 ≤ V) (hV2 : V ≤ 15) (hN : Nu < 1000)
  (hss : ∃ hp9 tk9, s = { s₁ with heap := hp9, toks := tk9 })
  (h44 : @LT.lt Nat _ 44 L) (h51 : @LT.lt Nat _ 51 L) (hIL : @LT.lt Nat _ (L + 1 + 1 + 1) I) (h3 : @LT.lt Nat _ 44 D3 ∧ @LT.lt Nat _ 51 D3) (h4 : @LT.lt Nat _ 44 D4) 
  (hx1 : @Ne Nat x1 (L + 1) ∧ @Ne Nat x1 (L + 1 + 1) ∧ @Ne Nat x1 (L + 1 + 1 + 1) ∧ @Ne Nat x1 I ∧ @Ne Nat x1 D3 ∧ @LT.lt Nat _ x1 D4) (hx2 : @Ne Nat x2 (L + 1) ∧ @Ne Nat x2 (L + 1 + 1) ∧ @Ne Nat x2 (L + 1 + 1 + 1) ∧ @Ne Nat x2 I ∧ @Ne Nat x2 D3 ∧ @LT.lt Nat _ x2 D4) :
  wpAny (model PySem.Challenge.rw_hz0003_01.row.prog w) (callerA.deeper (envOfC nm sc L fa ccd)) (execs body (envOfC nm sc L fa ccd)) (RvPost base L s₁ I it (Jl L l I) Q) E s := by
  have hK9 : hd.heap_39 = hd.heap_39 ∧ PySem.Challenge.rw_hz0003_01 = PySem.Challenge.rw_hz0003_01 := by (k_fill; exact ⟨rfl, rfl⟩)
  clear hK9
  refine' lit_at hlk ?h2 ?k
  case h2 => k_is
  case k =>
    clear hlk
    intro e
    cases e
    (try k_fold)
    obtain ⟨H2, H3, H4, H5⟩ := law_nums hO1 hO2 hV1 hV2
    replace H4 := bne_false H4
    replace H5 := bne_false H5
    have H0 := bne_false (rfl : (O : Int) = (O : Int))
    obtain ⟨hs1, hs2, hs3⟩ := ts_sep (News.drop N (by k_allIn)) ts1 ts2
    have hs1' := neN hs1
    have hs2' := neN hs2
    k_steps
    refine kso_sorted (ns := resM O V) (by k_asm) (by k_asm) (News.isList (by k_asm) (.head _)) (by assumption) (by unfold resM; rw [List.length_map, rangeKs_length]; omega) ?_
    intro Ds vs' ns' c' h7 F7 N7 lt7 is7 es7 perm7 pw7 _
    (try clear F)
    (try clear N)
    (try dsimp only)
    k_sweep
    k_steps
    refine ⟨?_⟩
    refine ListComp_2 (h₀ := base) (L := L) (by k_asm) rfl (by with_unfolding_all rfl) (by decide) rfl (by decide) (by rfl) (by rfl) (by decide) ?_ (fun _ => by rfl) (fun _ _ => by rfl)
    obtain ⟨hsm, hrs, hmul, hS1, hS2⟩ := law_rng hO1 hO2 hV1 hV2
    k_steps
    refine ⟨_, 0, O, (O.gcd V : Nat), _, _, _, O / O.gcd V, _, fun i ys => i ≤ O / O.gcd V ∧ IntsAre ys (mulL (O.gcd V) i), rfl, by k_asm, by k_asm, by assumption, hsm, hrs, ⟨Nat.zero_le _, .nil⟩, ?turn, ?fin⟩
    case turn =>
      (repeat (rename Fr _ _ _ _ => q9; clear q9))
      (repeat (rename News _ _ _ _ => q9; clear q9))
      clear lt7
      rintro i ys t I1 oI1 C oC D m₂ s2 E' hi ⟨hi', hJ⟩ hC hx F1 N1
      dsimp only
      k_steps
      refine PySem.W.LCgL.ld_built (h₀ := base) (L := L) F1 X T (by k_is) (by boot_by_name) (by decide) ?_
      k_steps
      refine ⟨_, 0, (O.gcd V : Nat), _, _, _, O.gcd V, fun j zs => j ≤ O.gcd V ∧ IntsAre zs (mulL (O.gcd V) i ++ List.replicate j (0 + (i : Int) * ((O.gcd V : Nat) : Int))), _, _, rfl, rfl, by k_asm, by k_asm, by assumption, small_one (by omega) (by omega) (by omega) (by omega), by rw [rangeSize_nat]; omega, ⟨Nat.zero_le _, by simpa using hJ⟩, fun _ h => ⟨hi, by rw [mulL]; exact h.2⟩, ?len, ?inn⟩
      case len =>
        rintro j zs ⟨hj, e⟩
        have q1 := IntsAre.length e
        rw [List.length_append, mulL_length, List.length_replicate] at q1
        have q3 : i * O.gcd V ≤ (O / O.gcd V) * O.gcd V := Nat.mul_le_mul_right _ hi'
        rw [PySem.sizeLine_eq]
        omega
      case inn =>
        rintro j zs t' I1' oI1' I2 oI2 oC' m₃ s3 E3 hj ⟨hj', hJ3⟩ hC3 hx3 hy3 F3 N3
        simp only [List.forIn_nil]
        refine wpAny_pure ?_
        k_steps
        exact ⟨_, _, rfl, F3, N3, hj, by rw [List.replicate_succ', ← List.append_assoc]; exact ints_snoc hJ3⟩
    case fin =>
      rintro Dm h8 tk8 ys8 ⟨_, hJ8⟩ F8 N8 off8 hLD8
      (try clear F7)
      (try clear N7)
      simp only [List.forall_mem_cons, List.not_mem_nil, false_implies, implies_true, and_true] at off8
      (try dsimp only)
      k_sweep
      k_steps
      refine kso_sorted (ns := mulL (O.gcd V) (O / O.gcd V)) (by k_asm) (by k_asm) (News.isList (by k_asm) (.head _)) (by assumption) (by rw [mulL_length]; omega) ?_
      intro Dt vt nt ct h9 F9 N9 lt9 is9 es9 perm9 pw9 _
      (try clear F8)
      (try clear N8)
      have hnn : ns' = nt := ksm_same (perm7.trans ((law_res hO1 hO2 hV1 hV2).trans perm9.symm)) pw7 pw9
      subst hnn
      have H7 : (!decide (ns' = ns')) = false := by simp
      (try dsimp only)
      k_sweep
      k_steps
      refine ⟨?_⟩
      clear lt7 lt9 off8
      refine c_whL (p1 := p1) (p2 := p2) (x1 := x1) (x2 := x2) (o1 := o1) (o2 := o2) (rest := [(I, it), (L + 1 + 1 + 1, oS), (L + 1 + 1, oV), (L + 1, oO), (D3, _)]) O (V + O) 0 (by k_asm) (by k_asm) (by k_asm) (by k_asm) CH1 CH2 rfl (News.drop (by k_asm) (by k_allIn)) ts1 ts2 ?_ rfl rfl rfl (by omega) (by omega) (by omega) (by omega) ?_
      · (repeat' first | exact List.forall_mem_nil _ | (refine List.forall_mem_cons.mpr ⟨⟨by first | (dsimp only; omega) | k_ne, by first | (dsimp only; omega) | k_ne, by first | (dsimp only; omega) | k_ne, by first | (dsimp only; omega) | k_ne⟩, ?_⟩))
      intro D5 u5a u5b u5c un5 p1e p2e x1e x2e o1e o2e h5w tk5w F5w N5w ts1e ts2e hD5 hr5
      simp only [List.forall_mem_cons, List.not_mem_nil, false_implies, implies_true, and_true] at hr5
      (try clear F9)
      (try clear N9)
      (try dsimp only)
      k_sweep
      k_steps
      obtain ⟨hp9, tk9, rfl⟩ := hss
      show RvEnd _ _ _ _ _ _ _
      refine RvEnd.mk' (I := I) (it := it) (J := Jl L l I) [(L + 1 + 1 + 1, oS), (L + 1 + 1, oV), (L + 1, oO), (44, tabObj p1e), (x1e, o1e), (51, tabObj p2e), (x2e, o2e)] (by k_asm) (by k_asm) (by k_allIn) ?hoE ?jE
      case jE => exact ⟨rfl, p1e, p2e, x1e, x2e, o1e, o2e, oS, oV, oO, _, _, _, rfl, ts1e, ts2e, hS, hV, hO, hIL, by omega, by omega⟩
      case hoE =>
        have g : ∀ q ∈ [(L + 1 + 1 + 1, oS), (L + 1 + 1, oV), (L + 1, oO), (44, tabObj p1e), (x1e, o1e), (51, tabObj p2e), (x2e, o2e)], @Ne Nat q.1 I := by
          simp only [List.forall_mem_cons, List.not_mem_nil, false_implies, implies_true, and_true]
          omega
        exact g
end Mine
end

section
open PySem PySem.W PyProof.Rows PySem.Calls PySem.Spec
open PyProof.Rows.LCg
set_option Elab.async false
set_option maxRecDepth 100000
set_option maxHeartbeats 4000000
namespace Mine
structure StopMark : Prop where
local macro_rules | `(tactic| k_all) => `(tactic| first | exact List.forall_mem_nil _ | (refine' List.forall_mem_cons.mpr ⟨?a, ?b⟩; (case a => k_ne); (case b => k_all)))
local macro_rules | `(tactic| walk_at "execs cons") => `(tactic| (k_here; (try dsimp only); k_gentoks))
local macro_rules | `(tactic| walk_at "execs nil") => `(tactic| (k_here; (try dsimp only); k_gentoks))
local macro_rules | `(tactic| walk_at "call ref") => `(tactic| ((with_reducible show wpAny _ _ (call (Value.ref 84) _) _ _ _); refine hold_at ?_))
local macro_rules | `(tactic| walk_at "eval ListComp") => `(tactic| ((with_reducible show wpAny _ _ (eval (PySem.Expr.ListComp _ (_ :: _ :: _) _ _) _) _ _ _); refine hold_at ?_))
local macro_rules | `(tactic| walk_at "execs cons") => `(tactic| ((have hs9 : StopMark := by assumption); clear hs9; refine hold_at ?_))
theorem c_part6 {w : World} {nm ql kx : Str} {ps : Arguments} {it1 : PySem.Expr} {kp fpos : Pos} {S0 S1 S2 S3 S4 S5 sret : Stmt} {sc : Scope} {body : List Stmt} {dV kV doc0 pm0 cdv ct0 oc0 : Value} {an0 od0 : Option Addr} {osl : Array (Option Value)}
  (hlk : (hd.heap_39 w.params).lookup 89 = some ⟨oc0, od0, .func (fnOf nm ql ps [.For (.Name kx kp) it1 (S0 :: S1 :: S2 :: S3 :: S4 :: S5 :: body) [] fpos, sret] sc dV kV doc0 pm0 an0 cdv ct0), osl⟩)
  {base : Heap} {L l I D3 D4 : Addr} {m : Str → Option Value} {s s₁ : Shared} {Q : Flow → Shared → Prop} {E : Value → Shared → Prop} {ccd : Value} {fa : Addr}
  {p : Program} {loose : List Str} {mean : ExcName → Option Value} {mg mb : Str → Option Value} {p1 p2 : Array Value} {x1 x2 : Addr} {o1 o2 oS oV oO it : Obj} {tS tO tV tN u3a u3b u3c u4a u4b u4c : Tok} {n3 n4 : Nat} {O V Nu : Nat}
  (B : Below callerA base [] base) (X : (hd.heap_39 w.params).In base) (T : Top p loose mean mg mb base) (CH1 : CodeHd base 48 44) (CH2 : CodeHd base 55 51)
  (F : Fr base L s.heap (fun y => if y = Str.ofString "left" then some (.ref D3) else if y = Str.ofString "right" then some (.ref D4) else kstB m [(Str.ofString "script", .ref l), (Str.ofString "number", .int (Nu : Int) tN)] y))
  (N : News base L s.heap [(D4, tupO [.int (sq V O 0 V) u4a, .int (sr V O 0 V) u4b, .int (V : Int) u4c] n4), (44, tabObj p1), (x1, o1), (51, tabObj p2), (x2, o2), (I, it), (L + 1 + 1 + 1, oS), (L + 1 + 1, oV), (L + 1, oO),
    (D3, tupO [.int (sq O V 0 O) u3a, .int (sr O V 0 O) u3b, .int (O : Int) u3c] n3)])
  (ts1 : TS 44 50 4 q1 p1 x1 o1) (ts2 : TS 51 65 4 q2 p2 x2 o2) (hS : oS.data = .cell (some (.int (O.gcd V : Nat) tS))) (hV : oV.data = .cell (some (.int (V : Int) tV))) (hO : oO.data = .cell (some (.int (O : Int) tO)))
  (hO1 : 1 ≤ O) (hO2 : O ≤ 15) (hV1 : 1 ≤ V) (hV2 : V ≤ 15) (hN : Nu < 1000)
  (hss : ∃ hp9 tk9, s = { s₁ with heap := hp9, toks := tk9 })
  (h44 : @LT.lt Nat _ 44 L) (h51 : @LT.lt Nat _ 51 L) (hIL : @LT.lt Nat _ (L + 1 + 1 + 1) I) (h3 : @LT.lt Nat _ 44 D3 ∧ @LT.lt Nat _ 51 D3) (h4 : @LT.lt Nat _ 44 D4) 
  (hx1 : @Ne Nat x1 (L + 1) ∧ @Ne Nat x1 (L + 1 + 1) ∧ @Ne Nat x1 (L + 1 + 1 + 1) ∧ @Ne Nat x1 I ∧ @Ne Nat x1 D3 ∧ @LT.lt Nat _ x1 D4) (hx2 : @Ne Nat x2 (L + 1) ∧ @Ne Nat x2 (L + 1 + 1) ∧ @Ne Nat x2 (L + 1 + 1 + 1) ∧ @Ne Nat x2 I ∧ @Ne Nat x2 D3 ∧ @LT.lt Nat _ x2 D4) :
  wpAny (model PySem.Challenge.rw_hz0003_01.row.prog w) (callerA.deeper (envOfC nm sc L fa ccd)) (execs body (envOfC nm sc L fa ccd)) (RvPost base L s₁ I it (Jl L l I) Q) E s := by
  have hK9 : hd.heap_39 = hd.heap_39 ∧ PySem.Challenge.rw_hz0003_01 = PySem.Challenge.rw_hz0003_01 := by (k_fill; exact ⟨rfl, rfl⟩)
  clear hK9
  refine' lit_at hlk ?h2 ?k
  case h2 => k_is
  case k =>
    clear hlk
    intro e
    cases e
    (try k_fold)
    obtain ⟨H2, H3, H4, H5⟩ := law_nums hO1 hO2 hV1 hV2
    replace H4 := bne_false H4
    replace H5 := bne_false H5
    have H0 := bne_false (rfl : (O : Int) = (O : Int))
    obtain ⟨hs1, hs2, hs3⟩ := ts_sep (News.drop N (by k_allIn)) ts1 ts2
    have hs1' := neN hs1
    have hs2' := neN hs2
    k_steps
    refine ⟨?_⟩
    refine ListComp_2 (h₀ := base) (L := L) (by k_asm) rfl (by with_unfolding_all rfl) (by decide) rfl (by decide) (by rfl) (by rfl) (by decide) ?_ (fun _ => by rfl) (fun _ _ => by rfl)
    k_steps
    refine ⟨_, 1, O, 1, _, _, _, O - 1, _, fun i ys => ys.length = allC O V i, rfl, by k_asm, by k_asm, by assumption, small_one (by omega) (by omega) (by omega) (by omega), by rw [rangeSize_nat]; omega, rfl, ?turn, ?fin⟩
    case turn =>
      intro i ys t I1 oI1 C oC D m₂ s2 E' hi hJ hC hx F1 N1
      (try clear F)
      (try clear N)
      k_steps
      refine ⟨_, 1, (V : Int) + 1, _, _, _, V, fun j zs => j ≤ V ∧ zs.length = allC O V i + colC O V i j, _, _, rfl, rfl, by k_asm, by k_asm, by assumption, small_one (by omega) (by omega) (by omega) (by omega), by rw [rangeSize_nat]; omega, ⟨Nat.zero_le _, hJ⟩, fun _ h => h.2, ?len, ?inn⟩
      case len =>
        rintro j zs ⟨hj, e⟩
        have q1 := colC_le O V i j
        have q2 := allC_le O V i
        have q3 : i * V ≤ 15 * 15 := Nat.mul_le_mul (by omega) hV2
        rw [PySem.sizeLine_eq]
        omega
      case inn =>
        rintro j zs t' I1' oI1' I2 oI2 oC' m₃ s3 E3 hj ⟨hj', hJ3⟩ hC3 hx3 hy3 F3 N3
        refine wpAny_tests_one ?_
        k_steps
        · rename_i hle
          exact ⟨_, _, rfl, F3, N3, hj, by show (zs ++ [_]).length = _; rw [List.length_append, colC, if_pos hle, hJ3]; rfl⟩
        · rename_i hle
          exact ⟨_, _, rfl, F3, N3, hj, by show zs.length = _; rw [colC, if_neg hle, hJ3]; rfl⟩
    case fin =>
      intro D h tk ys hJ F6 N6 off hLD
      (try clear F)
      (try clear N)
      have H6 : (sq O V 0 O != (ys.length : Int)) = false := bne_false (by rw [hJ]; exact (law_count hO1 hO2 hV1 hV2).symm)
      simp only [List.forall_mem_cons, List.not_mem_nil, false_implies, implies_true, and_true] at off
      (try dsimp only)
      k_sweep
      k_steps
      refine KM.len_K (n := ys.length) (by k_asm) (.head _) (by rw [List.size_toArray]) (by have := allC_le O V (O - 1); have q3 : (O - 1) * V ≤ 15 * 15 := Nat.mul_le_mul (by omega) hV2; omega) ?_
      have hstop : StopMark := ⟨⟩
      k_steps
      refine ⟨?_⟩
      refine' c_part7 ?hh B X T CH1 CH2 F6 (News.drop N6 (by k_allIn)) ts1 ts2 hS hV hO hO1 hO2 hV1 hV2 hN (by obtain ⟨hp9, tk9, rfl⟩ := hss; exact ⟨_, _, rfl⟩) h44 h51 hIL h3 h4 hx1 hx2
      case hh => k_is
end Mine
end

section
open PySem PySem.W PyProof.Rows PySem.Calls PySem.Spec
set_option Elab.async false
set_option maxRecDepth 100000
set_option maxHeartbeats 4000000
namespace Mine
local macro_rules | `(tactic| k_all) => `(tactic| first | exact List.forall_mem_nil _ | (refine' List.forall_mem_cons.mpr ⟨?a, ?b⟩; (case a => k_ne); (case b => k_all)))
local macro_rules | `(tactic| walk_at "call ref") => `(tactic| ((with_reducible show wpAny _ _ (call (Value.ref 77) _) _ _ _); refine hold_at ?_))
local macro_rules | `(tactic| walk_at "call ref") => `(tactic| ((with_reducible show wpAny _ _ (call (Value.ref 84) _) _ _ _); refine hold_at ?_))

local macro_rules | `(tactic| walk_at "execs cons") => `(tactic| (k_here; (try dsimp only); k_gentoks))
local macro_rules | `(tactic| walk_at "execs nil") => `(tactic| (k_here; (try dsimp only); k_gentoks))
structure StopIf : Prop where
local macro_rules | `(tactic| walk_at "execs cons") => `(tactic| ((have hs9 : StopMark := by assumption); clear hs9; refine hold_at ?_))
local macro_rules | `(tactic| walk_at "exec If") => `(tactic| ((have hs9 : StopIf := by assumption); clear hs9; refine hold_at ?_))
theorem c_partB {w : World} {nm ql kx : Str} {ps : Arguments} {it1 : PySem.Expr} {kp fpos : Pos} {S0 S1 sret : Stmt} {sc : Scope} {body : List Stmt} {dV kV doc0 pm0 cdv ct0 oc0 : Value} {an0 od0 : Option Addr} {osl : Array (Option Value)}
  (hlk : (hd.heap_39 w.params).lookup 89 = some ⟨oc0, od0, .func (fnOf nm ql ps [.For (.Name kx kp) it1 (S0 :: S1 :: body) [] fpos, sret] sc dV kV doc0 pm0 an0 cdv ct0), osl⟩)
  {base : Heap} {L l I : Addr} {m : Str → Option Value} {s s₁ : Shared} {Q : Flow → Shared → Prop} {E : Value → Shared → Prop} {ccd : Value} {fa : Addr}
  {p : Program} {loose : List Str} {mean : ExcName → Option Value} {mg mb : Str → Option Value} {p1 p2 : Array Value} {x1 x2 : Addr} {o1 o2 oS oV oO it : Obj} {vS : Option Value} {tO tV tN : Tok} {O V Nu : Nat}
  (B : Below callerA base [] base) (X : (hd.heap_39 w.params).In base) (T : Top p loose mean mg mb base) (CH1 : CodeHd base 48 44) (CH2 : CodeHd base 55 51)
  (F : Fr base L s.heap (kstB m [(Str.ofString "script", .ref l), (Str.ofString "number", .int (Nu : Int) tN)]))
  (N : News base L s.heap [(I, it), (L + 1 + 1 + 1, oS), (L + 1 + 1, oV), (L + 1, oO), (44, tabObj p1), (x1, o1), (51, tabObj p2), (x2, o2)])
  (ts1 : TS 44 50 4 q1 p1 x1 o1) (ts2 : TS 51 65 4 q2 p2 x2 o2) (hS : oS.data = .cell vS) (hV : oV.data = .cell (some (.int (V : Int) tV))) (hO : oO.data = .cell (some (.int (O : Int) tO)))
  (hO1 : 1 ≤ O) (hO2 : O ≤ 15) (hV1 : 1 ≤ V) (hV2 : V ≤ 15) (hN : Nu < 1000)
  (hss : ∃ hp9 tk9, s = { s₁ with heap := hp9, toks := tk9 })
  (h44 : @LT.lt Nat _ 44 L) (h51 : @LT.lt Nat _ 51 L) (hIL : @LT.lt Nat _ (L + 1 + 1 + 1) I)
  (hx1 : @Ne Nat x1 (L + 1) ∧ @Ne Nat x1 (L + 1 + 1) ∧ @Ne Nat x1 (L + 1 + 1 + 1) ∧ @Ne Nat x1 I) (hx2 : @Ne Nat x2 (L + 1) ∧ @Ne Nat x2 (L + 1 + 1) ∧ @Ne Nat x2 (L + 1 + 1 + 1) ∧ @Ne Nat x2 I) :
  wpAny (model PySem.Challenge.rw_hz0003_01.row.prog w) (callerA.deeper (envOfC nm sc L fa ccd)) (execs body (envOfC nm sc L fa ccd)) (RvPost base L s₁ I it (Jl L l I) Q) E s := by
  have hK9 : hd.heap_39 = hd.heap_39 ∧ PySem.Challenge.rw_hz0003_01 = PySem.Challenge.rw_hz0003_01 := by (k_fill; exact ⟨rfl, rfl⟩)
  clear hK9
  refine' lit_at hlk ?h2 ?k
  case h2 => k_is
  case k =>
    clear hlk
    intro e
    cases e
    (try k_fold)
    k_steps
    refine ⟨?_⟩
    refine c_sh (rest := [(I, it), (L + 1 + 1 + 1, oS), (L + 1 + 1, oV), (L + 1, oO), (44, tabObj p1), (x1, o1), (51, tabObj p2), (x2, o2)]) O V (by k_asm) (by k_asm) (by k_asm) (by k_asm) rfl (by k_asm) rfl rfl ?_ ?_ ?_
    · show callerA.depth + 1 + 60 < recursionLimit
      decide
    · show callerA.units + 3 + 500 < cLine
      decide
    intro tS h9 tk9 F9 N9
    have H1 := hermite O hO1 Nu
    obtain ⟨H2, H3, H4, H5⟩ := law_nums hO1 hO2 hV1 hV2
    replace H1 := bne_false H1
    replace H2 := bne_false H2
    replace H3 := bne_false H3
    replace H4 := bne_false H4
    replace H5 := bne_false H5
    have H0 := bne_false (rfl : (O : Int) = (O : Int))
    obtain ⟨hs1, hs2, hs3⟩ := ts_sep (News.drop N9 (by k_allIn)) ts1 ts2
    have hs1' := neN hs1
    have hs2' := neN hs2
    (try dsimp only)
    k_sweep
    k_steps
    refine ⟨?_⟩
    refine c_whL (p1 := p1) (p2 := p2) (x1 := x1) (x2 := x2) (o1 := o1) (o2 := o2) (rest := [(I, it), (L + 1 + 1 + 1, _), (L + 1 + 1, oV), (L + 1, oO)]) O 1 Nu (by k_asm) (by k_asm) (by k_asm) (by k_asm) CH1 CH2 rfl (News.drop (by k_asm) (by k_allIn)) ts1 ts2 ?_ rfl rfl rfl (by omega) (by omega) (by omega) (by omega) ?_
    · (repeat' first | exact List.forall_mem_nil _ | (refine List.forall_mem_cons.mpr ⟨⟨by k_ne, by k_ne, by k_ne, by k_ne⟩, ?_⟩))
    intro D1 u1a u1b u1c un1 p1a p2a x1a x2a o1a o2a h1w tk1w F1w N1w ts1a ts2a hD1 hr1
    simp only [List.forall_mem_cons, List.not_mem_nil, false_implies, implies_true, and_true] at hr1
    (try dsimp only)
    k_sweep
    k_steps
    refine ⟨?_⟩
    refine c_whL (p1 := p1a) (p2 := p2a) (x1 := x1a) (x2 := x2a) (o1 := o1a) (o2 := o2a) (rest := [(I, it), (L + 1 + 1 + 1, _), (L + 1 + 1, oV), (L + 1, oO)]) O 1 Nu (by k_asm) (by k_asm) (by k_asm) (by k_asm) CH1 CH2 rfl (News.drop (by k_asm) (by k_allIn)) ts1a ts2a ?_ rfl rfl rfl (by omega) (by omega) (by omega) (by omega) ?_
    · (repeat' first | exact List.forall_mem_nil _ | (refine List.forall_mem_cons.mpr ⟨⟨by k_ne, by k_ne, by k_ne, by k_ne⟩, ?_⟩))
    intro D2 u2a u2b u2c un2 p1b p2b x1b x2b o1b o2b h2w tk2w F2w N2w ts1b ts2b hD2 hr2
    simp only [List.forall_mem_cons, List.not_mem_nil, false_implies, implies_true, and_true] at hr2
    (try dsimp only)
    k_sweep
    k_steps
    refine ⟨?_⟩
    refine c_whL (p1 := p1b) (p2 := p2b) (x1 := x1b) (x2 := x2b) (o1 := o1b) (o2 := o2b) (rest := [(I, it), (L + 1 + 1 + 1, _), (L + 1 + 1, oV), (L + 1, oO)]) O V 0 (by k_asm) (by k_asm) (by k_asm) (by k_asm) CH1 CH2 rfl (News.drop (by k_asm) (by k_allIn)) ts1b ts2b ?_ rfl rfl rfl (by omega) (by omega) (by omega) (by omega) ?_
    · (repeat' first | exact List.forall_mem_nil _ | (refine List.forall_mem_cons.mpr ⟨⟨by k_ne, by k_ne, by k_ne, by k_ne⟩, ?_⟩))
    intro D3 u3a u3b u3c un3 p1c p2c x1c x2c o1c o2c h3w tk3w F3w N3w ts1c ts2c hD3 hr3
    simp only [List.forall_mem_cons, List.not_mem_nil, false_implies, implies_true, and_true] at hr3
    (try dsimp only)
    k_sweep
    k_steps
    refine ⟨?_⟩
    refine c_whL (p1 := p1c) (p2 := p2c) (x1 := x1c) (x2 := x2c) (o1 := o1c) (o2 := o2c) (rest := [(I, it), (L + 1 + 1 + 1, _), (L + 1 + 1, oV), (L + 1, oO), (D3, _)]) V O 0 (by k_asm) (by k_asm) (by k_asm) (by k_asm) CH1 CH2 rfl (News.drop (by k_asm) (by k_allIn)) ts1c ts2c ?_ rfl rfl rfl (by omega) (by omega) (by omega) (by omega) ?_
    · (repeat' first | exact List.forall_mem_nil _ | (refine List.forall_mem_cons.mpr ⟨⟨by k_ne, by k_ne, by k_ne, by k_ne⟩, ?_⟩))
    intro D4 u4a u4b u4c un4 p1d p2d x1d x2d o1d o2d h4w tk4w F4w N4w ts1d ts2d hD4 hr4
    simp only [List.forall_mem_cons, List.not_mem_nil, false_implies, implies_true, and_true] at hr4
    (try dsimp only)
    k_sweep
    have hIf : StopIf := ⟨⟩
    k_steps
    refine ⟨?_⟩
    clear hIf
    have hstop : StopMark := ⟨⟩
    k_steps
    refine ⟨?_⟩
    clear hstop
    (rename News _ _ _ _ => N8)
    (rename Fr _ _ _ _ => F8)
    refine c_part6 (D3 := D3) (D4 := D4) (by k_is) B X T CH1 CH2 F8 (News.drop N8 (by k_allIn)) ts1d ts2d (by assumption) hV hO hO1 hO2 hV1 hV2 hN (by obtain ⟨hp9, tk9, rfl⟩ := hss; exact ⟨_, _, rfl⟩) h44 h51 hIL ?c1 ?c2 ?c3 ?c4
    case c1 => omega
    case c2 => omega
    case c3 => omega
    case c4 => omega
end Mine
end

section
open PySem PySem.W PyProof.Rows PySem.Calls PySem.Spec
set_option Elab.async false
set_option maxRecDepth 100000
set_option maxHeartbeats 4000000
namespace Mine
local macro_rules | `(tactic| k_all) => `(tactic| first | exact List.forall_mem_nil _ | (refine' List.forall_mem_cons.mpr ⟨?a, ?b⟩; (case a => k_ne); (case b => k_all)))
local macro_rules | `(tactic| walk_at "call ref") => `(tactic| ((with_reducible show wpAny _ _ (call (Value.ref 77) _) _ _ _); refine hold_at ?_))
local macro_rules | `(tactic| walk_at "call ref") => `(tactic| ((with_reducible show wpAny _ _ (call (Value.ref 84) _) _ _ _); refine hold_at ?_))

theorem nat15 (x : Int) : ∃ O : Nat, 1 + x.fmod 15 = (O : Int) ∧ 1 ≤ O ∧ O ≤ 15 := by
  have e : x.fmod 15 = x % 15 := Int.fmod_eq_emod_of_nonneg _ (by omega)
  exact ⟨(1 + x.fmod 15).toNat, by omega, by omega, by omega⟩
theorem nat1000 (x : Int) : ∃ O : Nat, x.fmod 1000 = (O : Int) ∧ O < 1000 := by
  have e : x.fmod 1000 = x % 1000 := Int.fmod_eq_emod_of_nonneg _ (by omega)
  exact ⟨(x.fmod 1000).toNat, by omega, by omega⟩
theorem fr_cut2 {h₀ h : Heap} {L : Addr} {m₁ : Str → Option Value} {P : Prop} (v : Value) (n : Int) {t : Tok} (h1 : m₁ (Str.ofString "script") = some v) (h2 : m₁ (Str.ofString "number") = some (.int n t))
    (F : Fr h₀ L h m₁) (k : ∀ m t, Fr h₀ L h (kstB m [(Str.ofString "script", v), (Str.ofString "number", .int n t)]) → P) : P :=
  fr_cut [(Str.ofString "script", v), (Str.ofString "number", .int n t)] (List.forall_mem_cons.mpr ⟨h1, List.forall_mem_cons.mpr ⟨h2, List.forall_mem_nil _⟩⟩) F fun m F' => k m t F'
structure Stop0 : Prop where
structure Stop1 : Prop where
structure Stop2 : Prop where
local macro_rules | `(tactic| walk_at "execs cons") => `(tactic| ((rename Stop0 => z9); clear z9; (try k_gentoks); refine hold_at ?_))
local macro_rules | `(tactic| walk_at "execs cons") => `(tactic| ((rename Stop1 => z9); clear z9; (have z8 : Stop0 := ⟨⟩); (try k_gentoks); (with_reducible refine wpAny_execs_cons ?_); (try dsimp only)))
local macro_rules | `(tactic| walk_at "execs cons") => `(tactic| ((rename Stop2 => z9); clear z9; (have z8 : Stop1 := ⟨⟩); (with_reducible refine wpAny_execs_cons ?_); (try dsimp only)))
theorem c_turn {w : World} {nm ql kx : Str} {ps : Arguments} {it1 : PySem.Expr} {kp fpos : Pos} {sret : Stmt} {sc : Scope} {body : List Stmt} {dV kV doc0 pm0 cdv ct0 oc0 : Value} {an0 od0 : Option Addr} {osl : Array (Option Value)}
  (hlk : (hd.heap_39 w.params).lookup 89 = some ⟨oc0, od0, .func (fnOf nm ql ps [.For (.Name kx kp) it1 body [] fpos, sret] sc dV kV doc0 pm0 an0 cdv ct0), osl⟩)
  {base h : Heap} {L l I : Addr} {vs : List Value} {ns : List Int} {m : Str → Option Value} {s : Shared} {tk9 : Tok} {Q : Flow → Shared → Prop} {E : Value → Shared → Prop} {ccd : Value} {fa : Addr} {i : Nat}
  {p : Program} {loose : List Str} {mean : ExcName → Option Value} {mg mb : Str → Option Value} {p1 p2 : Array Value} {x1 x2 : Addr} {o1 o2 oS oV oO it : Obj} {vS vV vO : Option Value} {ts : Tok}
  (B : Below callerA base [] base) (X : (hd.heap_39 w.params).In base) (T : Top p loose mean mg mb base) (CH1 : CodeHd base 48 44) (CH2 : CodeHd base 55 51)
  (hl : base.IsList l vs.toArray) (hi : IntsAre vs ns) (hL : (PyData.list (List.map PyData.int ns)).layable0 = true)
  (F : Fr base L s.heap (fun y => if y = Str.ofString "k" then some (.int (0 + (i : Int) * 2) tk9) else m y)) (hm : m (Str.ofString "script") = some (.ref l))
  (N : News base L s.heap [(I, it), (L + 1 + 1 + 1, oS), (L + 1 + 1, oV), (L + 1, oO), (44, tabObj p1), (x1, o1), (51, tabObj p2), (x2, o2)])
  (ts1 : TS 44 50 4 q1 p1 x1 o1) (ts2 : TS 51 65 4 q2 p2 x2 o2) (hS : oS.data = .cell vS) (hV : oV.data = .cell vV) (hO : oO.data = .cell vO)
  (hidx : i * 2 + 1 < ns.length)
  (h44 : @LT.lt Nat _ 44 L) (h51 : @LT.lt Nat _ 51 L) (hIL : @LT.lt Nat _ (L + 1 + 1 + 1) I)
  (hx1 : @Ne Nat x1 (L + 1) ∧ @Ne Nat x1 (L + 1 + 1) ∧ @Ne Nat x1 (L + 1 + 1 + 1) ∧ @Ne Nat x1 I) (hx2 : @Ne Nat x2 (L + 1) ∧ @Ne Nat x2 (L + 1 + 1) ∧ @Ne Nat x2 (L + 1 + 1 + 1) ∧ @Ne Nat x2 I) :
  wpAny (model PySem.Challenge.rw_hz0003_01.row.prog w) (callerA.deeper (envOfC nm sc L fa ccd)) (execs body (envOfC nm sc L fa ccd)) (RvPost base L s I it (Jl L l I) Q) E s := by
  have hK9 : hd.heap_39 = hd.heap_39 ∧ PySem.Challenge.rw_hz0003_01 = PySem.Challenge.rw_hz0003_01 := by (k_fill; exact ⟨rfl, rfl⟩)
  clear hK9
  refine' lit_at hlk ?h2 ?k
  case h2 => k_is
  case k =>
    clear hlk
    intro e
    cases e
    have F2 := fr_ps [(Str.ofString "script", .ref l)] (List.forall_mem_cons.mpr ⟨hm, List.forall_mem_nil _⟩) F
    clear F
    have hst : Stop2 := ⟨⟩
    (try k_fold)
    k_steps
    refine ⟨?_⟩
    obtain ⟨O, eO, hO1, hO2⟩ := nat15 (ns.getD (0 + (i : Int) * 2).toNat 0)
    obtain ⟨V, eV, hV1, hV2⟩ := nat15 (ns.getD (0 + (i : Int) * 2 + 1).toNat 0)
    obtain ⟨Nu, eN, hN⟩ := nat1000 ((if ns.getD (0 + (i : Int) * 2 + 1).toNat 0 > ns.getD (0 + (i : Int) * 2).toNat 0 then ns.getD (0 + (i : Int) * 2 + 1).toNat 0 else ns.getD (0 + (i : Int) * 2).toNat 0).fdiv 16)
    (rename News _ _ _ _ => N8)
    (rename Fr _ _ _ _ => F8)
    refine' fr_cut2 (.ref l) (Nu : Int) ?q1 ?q2 F8 ?kk
    case q1 => rfl
    case q2 => (rw [← eN]; rfl)
    case kk =>
    intro m9 t9 F9
    clear F8
    refine' c_partB (O := O) (V := V) (Nu := Nu) (by k_is) B X T CH1 CH2 F9 (News.drop N8 (by k_allIn)) ts1 ts2 hS ?hV ?hO hO1 hO2 hV1 hV2 hN ⟨_, _, rfl⟩ h44 h51 hIL hx1 hx2
    case hV => (rw [← eV]; assumption)
    case hO => (rw [← eO]; assumption)
end Mine
end

section
open PySem PySem.W PyProof.Rows PySem.Calls PySem.Spec
set_option Elab.async false
set_option maxRecDepth 100000
set_option maxHeartbeats 8000000
namespace Mine
theorem halves {j : Nat} (h : j ≤ 6) : Builtin.Range.small 0 ((j : Int) - 1) 2 = true ∧ Builtin.Range.rangeSize 0 ((j : Int) - 1) 2 = ((j / 2 : Nat) : Int) := by
  have e : ∀ j : Fin 7, Builtin.Range.small 0 ((j.1 : Int) - 1) 2 = true ∧ Builtin.Range.rangeSize 0 ((j.1 : Int) - 1) 2 = ((j.1 / 2 : Nat) : Int) := by decide +kernel
  exact e ⟨j, by omega⟩
theorem fr_cut1 {h₀ h : Heap} {L : Addr} {m₁ : Str → Option Value} {P : Prop} {v : Value} (h1 : m₁ (Str.ofString "script") = some v)
    (F : Fr h₀ L h m₁) (k : ∀ m, Fr h₀ L h (kstB m [(Str.ofString "script", v)]) → P) : P :=
  fr_cut [(Str.ofString "script", v)] (List.forall_mem_cons.mpr ⟨h1, List.forall_mem_nil _⟩) F k
theorem six (n : Nat) : ∃ j : Nat, j ≤ 6 ∧ j ≤ n ∧ (if (n : Int) < 6 then (n : Int) else 6) - 1 = (j : Int) - 1 := by
  by_cases h : (n : Int) < 6
  · exact ⟨n, by omega, Nat.le_refl _, by rw [if_pos h]⟩
  · exact ⟨6, Nat.le_refl _, by omega, by rw [if_neg h]; rfl⟩
theorem start_news {base : Heap} {L : Addr} {h : Heap} {a b c : Obj} (N : News base L h [(L + 1 + 1 + 1, a), (L + 1 + 1, b), (L + 1, c), (51, tabObj #[]), (44, tabObj #[])]) :
    News base L h [(L + 1 + 1 + 1, a), (L + 1 + 1, b), (L + 1, c), (44, tabObj #[]), (44, tabObj #[]), (51, tabObj #[]), (51, tabObj #[])] := News.drop N (by k_allIn)
theorem start_J {L l I : Addr} {a b c : Obj} {va vb vc : Option Value} {m : Str → Option Value} (hm : m (Str.ofString "script") = some (.ref l)) (ha : a.data = .cell va) (hb : b.data = .cell vb) (hc : c.data = .cell vc)
    (l8 : 51 < L ∧ 44 < L) (hI : ∀ q ∈ [(L + 1 + 1 + 1, a), (L + 1 + 1, b), (L + 1, c), (44, tabObj #[]), (44, tabObj #[]), (51, tabObj #[]), (51, tabObj #[])], q.1 < I) :
    Jl L l I m [(L + 1 + 1 + 1, a), (L + 1 + 1, b), (L + 1, c), (44, tabObj #[]), (44, tabObj #[]), (51, tabObj #[]), (51, tabObj #[])] := by
  have h1 : @LT.lt Nat _ (L + 1 + 1 + 1) I := hI _ (.head _)
  have h2 : @LT.lt Nat _ 51 L := l8.1
  have h3 : @LT.lt Nat _ 44 L := l8.2
  exact ⟨hm, #[], #[], 44, 51, tabObj #[], tabObj #[], a, b, c, va, vb, vc, rfl, .inl ⟨rfl, rfl, rfl⟩, .inl ⟨rfl, rfl, rfl⟩, ha, hb, hc, h1, by omega, by omega⟩
theorem law_loop {w : World} {nm ql : Str} {ps : Arguments} {it1 : PySem.Expr} {kp fpos : Pos} {sret : Stmt} {sc : Scope} {body : List Stmt} {dV kV doc0 pm0 cdv ct0 oc0 : Value} {an0 od0 : Option Addr} {osl : Array (Option Value)}
  (hlk : (hd.heap_39 w.params).lookup 89 = some ⟨oc0, od0, .func (fnOf nm ql ps [.For (.Name (Str.ofString "k") kp) it1 body [] fpos, sret] sc dV kV doc0 pm0 an0 cdv ct0), osl⟩)
  {base : Heap} {L l r : Addr} {vs : List Value} {ns : List Int} {m : Str → Option Value} {s : Shared} {Q : Flow → Shared → Prop} {E : Value → Shared → Prop} {ccd : Value} {fa : Addr} {j : Nat} {t₀ u₀ v₀ : Tok}
  {p : Program} {loose : List Str} {mean : ExcName → Option Value} {mg mb : Str → Option Value} {a b c : Obj} {va vb vc : Option Value}
  (B : Below callerA base [] base) (X : (hd.heap_39 w.params).In base) (T : Top p loose mean mg mb base) (CH1 : CodeHd base 48 44) (CH2 : CodeHd base 55 51)
  (hl : base.IsList l vs.toArray) (hi : IntsAre vs ns) (hL : (PyData.list (List.map PyData.int ns)).layable0 = true)
  (F : Fr base L s.heap (kstB m [(Str.ofString "script", .ref l)]))
  (N : News base L s.heap [(L + 1 + 1 + 1, a), (L + 1 + 1, b), (L + 1, c), (51, tabObj #[]), (44, tabObj #[])])
  (ha : a.data = .cell va) (hb : b.data = .cell vb) (hc : c.data = .cell vc) (l8 : 51 < L ∧ 44 < L)
  (hr : IsRange s.heap r 0 ((j : Int) - 1) 2 t₀ u₀ v₀) (hj6 : j ≤ 6) (hjn : j ≤ ns.length)
  (done : ∀ m p1 p2 h tk, Fr base L h m → News base L h [(51, tabObj p2), (44, tabObj p1)] → Q .next { s with heap := h, toks := tk }) :
  wpAny (model PySem.Challenge.rw_hz0003_01.row.prog w) (callerA.deeper (envOfC nm sc L fa ccd)) (pyIter (.ref r)) (fun it s₂ => LoopAtV PySem.Challenge.rw_hz0003_01.row.prog w (callerA.deeper (envOfC nm sc L fa ccd)) base (envOfC nm sc L fa ccd) (Str.ofString "k") body Q E it s₂) E s := by
  obtain ⟨hsm, hrs⟩ := halves hj6
  refine krs_inv (a₀ := 0) (c := 2) (n := j / 2) (fun I _ m n => Jl L l I m n) rfl hr hsm hrs F (start_news N) ?_ ?_ ?_
  · intro I hI
    exact start_J rfl ha hb hc l8 hI
  · intro I i m n it t h tk hi' hJ _ F N
    obtain ⟨hm, p1, p2, x1, x2, o1, o2, oS, oV, oO, vS, vV, vO, rfl, ts1, ts2, hS, hV, hO, hIL, hx1, hx2⟩ := hJ
    exact c_turn (h := h) (ts := t) (i := i) hlk B X T CH1 CH2 hl hi hL F hm N ts1 ts2 hS hV hO (by omega) l8.2 l8.1 hIL hx1 hx2
  · intro I m n h tk hJ F N
    obtain ⟨hm, p1, p2, x1, x2, o1, o2, oS, oV, oO, vS, vV, vO, rfl, _⟩ := hJ
    exact done m p1 p2 h tk F (News.drop N (by k_allIn))
end Mine
end

section
open PySem PySem.W PyProof.Rows PySem.Calls PySem.Spec
set_option Elab.async false
set_option maxRecDepth 100000
set_option maxHeartbeats 8000000
namespace Mine
local macro_rules | `(tactic| k_all) => `(tactic| first | exact List.forall_mem_nil _ | (refine' List.forall_mem_cons.mpr ⟨?a, ?b⟩; (case a => k_ne); (case b => k_all)))
local macro_rules | `(tactic| walk_at "pyIter ref") => `(tactic| ((with_reducible show wpAny _ _ (pyIter _) (fun it s₂ => LoopAtV _ _ _ _ _ (Str.ofString "k") _ _ _ it s₂) _ _); refine hold_at ?_))
theorem main : PySem.Challenge.rw_hz0003_01.Holds := hd (by
  w_strict (k_go0; (all_goals try k_fold))
  all_goals k_steps
  refine ⟨?_⟩
  (rename News _ _ _ _ => N8)
  (rename Fr _ _ _ _ => F8)
  (rename IsRange _ _ _ _ _ _ _ _ => R8)
  (rename IntsAre _ _ => I8)
  (rename Below _ _ _ _ => B8)
  (rename Top _ _ _ _ _ _ => T8)
  (rename Frag.In _ _ => X8)
  refine' fr_cut1 ?q1 F8 ?kk
  case q1 => with_unfolding_all rfl
  case kk =>
  intro m9 F9
  clear F8
  obtain ⟨j, hj6, hjn, ej⟩ := six _
  rw [ej] at R8
  (rename CodeHd _ _ _ => C8)
  refine law_loop (by k_is) B8 X8 T8 C8 (by assumption) lifted I8 (by assumption) F9 N8 (by assumption) (by assumption) (by assumption) (by assumption) R8 hj6 hjn ?_
  intro m p1 p2 h tk F N
  clear N8 F9 R8
  (try dsimp only)
  k_steps)
end Mine
end

theorem PySem.Challenge.cw_hz0003_01_holds : PySem.Challenge.rw_hz0003_01.Holds := by
  exact Mine.main
