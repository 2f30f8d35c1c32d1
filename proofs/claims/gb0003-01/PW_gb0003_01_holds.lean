import PyProof.Rows.All
import Wide.All
import OpenK.AllK
import Wide.FinOn
import Lean
import PySem.Challenge.RW_gb0003_01
set_option Elab.async false
/-! plain arithmetic: figures, splices -/
namespace Mine
/-- k figures of N bits each, the least first -/
def dgN (N : Nat) : Nat → Nat → List Nat
  | 0, _ => []
  | k + 1, x => x % 2 ^ N :: dgN N k (x / 2 ^ N)
def dg (N k : Nat) (x : Int) : List Int := (dgN N k x.toNat).map Int.ofNat
theorem dgN_len (N : Nat) : ∀ k x, (dgN N k x).length = k
  | 0, _ => rfl
  | k + 1, x => by simp [dgN, dgN_len N k]
theorem dg_len (N k : Nat) (x : Int) : (dg N k x).length = k := by simp [dg, dgN_len]
theorem dgN_add (N q : Nat) : ∀ p x, dgN N (p + q) x = dgN N p (x % 2 ^ (N * p)) ++ dgN N q (x / 2 ^ (N * p))
  | 0, x => by simp [dgN]
  | p + 1, x => by
    have e : p + 1 + q = (p + q) + 1 := by omega
    have hpow : (2 : Nat) ^ (N * (p + 1)) = 2 ^ N * 2 ^ (N * p) := by rw [Nat.mul_succ, Nat.pow_add, Nat.mul_comm]
    rw [e]
    simp only [dgN]
    rw [dgN_add N q p, hpow, Nat.mod_mul_right_div_self, Nat.mod_mul_right_mod, List.cons_append, Nat.div_div_eq_div_mul]
theorem dg_add (N p q : Nat) (x : Int) (hx : 0 ≤ x) : dg N (p + q) x = dg N p (x % 2 ^ (N * p)) ++ dg N q (x / 2 ^ (N * p)) := by
  obtain ⟨X, rfl⟩ := Int.eq_ofNat_of_zero_le hx
  have h1 : ((X : Int) % 2 ^ (N * p)).toNat = X % 2 ^ (N * p) := by
    have : ((X : Int) % 2 ^ (N * p)) = ((X % 2 ^ (N * p) : Nat) : Int) := by simp [Int.natCast_emod, Int.natCast_pow]
    rw [this]; rfl
  have h2 : ((X : Int) / 2 ^ (N * p)).toNat = X / 2 ^ (N * p) := by
    have : ((X : Int) / 2 ^ (N * p)) = ((X / 2 ^ (N * p) : Nat) : Int) := by simp [Int.natCast_ediv, Int.natCast_pow]
    rw [this]; rfl
  unfold dg
  rw [h1, h2, Int.toNat_natCast, dgN_add, List.map_append]
theorem dg_one (N : Nat) (x : Int) (hx : 0 ≤ x) (h : x < 2 ^ N) : dg N 1 x = [x] := by
  obtain ⟨X, rfl⟩ := Int.eq_ofNat_of_zero_le hx
  have h' : X < 2 ^ N := by
    have : ((X : Int)) < ((2 ^ N : Nat) : Int) := by simpa [Int.natCast_pow] using h
    omega
  simp [dg, dgN, Nat.mod_eq_of_lt h']
def splice (ns : List Int) (lo : Nat) (ds : List Int) : List Int := ns.take lo ++ ds ++ ns.drop (lo + ds.length)
theorem splice_len (ns : List Int) (lo : Nat) (ds : List Int) (h : lo + ds.length ≤ ns.length) : (splice ns lo ds).length = ns.length := by
  simp [splice]; omega
theorem splice_set (ns : List Int) (lo : Nat) (x : Int) (h : lo < ns.length) : ns.set lo x = splice ns lo [x] := by
  rw [List.set_eq_take_append_cons_drop, if_pos h]
  simp [splice]
theorem splice_splice (ns : List Int) (lo : Nat) (d e : List Int) (h : lo + d.length + e.length ≤ ns.length) : splice (splice ns lo d) (lo + d.length) e = splice ns lo (d ++ e) := by
  have hlo : lo ≤ ns.length := by omega
  have h1 : (splice ns lo d).take (lo + d.length) = ns.take lo ++ d := by
    unfold splice
    rw [List.take_append_of_le_length (by simp; omega)]
    rw [List.take_of_length_le (by simp; omega)]
  have h2 : (splice ns lo d).drop (lo + d.length + e.length) = ns.drop (lo + (d ++ e).length) := by
    unfold splice
    rw [List.drop_append, List.drop_eq_nil_of_le (by simp; omega)]
    simp
    congr 1
    omega
  show (splice ns lo d).take (lo + d.length) ++ e ++ (splice ns lo d).drop (lo + d.length + e.length) = _
  rw [h1, h2]
  simp [splice]
theorem splice_all (ns ds : List Int) (h : ds.length = ns.length) : splice ns 0 ds = ds := by
  simp [splice, h]
end Mine
/-! plain arithmetic: the number that figures tell -/
namespace Mine
def valL (N : Nat) : List Int → Int
  | [] => 0
  | d :: ds => d + 2 ^ N * valL N ds
/-- the number told by k figures from place lo on -/
def valS (N : Nat) (ns : List Int) : Nat → Nat → Int
  | _, 0 => 0
  | lo, k + 1 => ns.getD lo 0 + 2 ^ N * valS N ns (lo + 1) k
theorem valS_add (N : Nat) (ns : List Int) (q : Nat) : ∀ p lo, valS N ns lo (p + q) = valS N ns lo p + 2 ^ (N * p) * valS N ns (lo + p) q
  | 0, lo => by simp [valS]
  | p + 1, lo => by
    have e : p + 1 + q = (p + q) + 1 := by omega
    have e2 : lo + (p + 1) = lo + 1 + p := by omega
    have hpow : (2 : Int) ^ (N * (p + 1)) = 2 ^ N * 2 ^ (N * p) := by rw [Nat.mul_succ, Int.pow_add, Int.mul_comm]
    rw [e]
    simp only [valS]
    rw [valS_add N ns q p (lo + 1), hpow, e2, Int.mul_add, Int.mul_assoc, Int.add_assoc]
theorem pow_nonneg (N : Nat) : (0 : Int) ≤ 2 ^ N := Int.le_of_lt (Int.pow_pos (by decide))
theorem valS_nonneg (N : Nat) (ns : List Int) (h : ∀ d ∈ ns, 0 ≤ d) : ∀ k lo, 0 ≤ valS N ns lo k
  | 0, _ => Int.le_refl _
  | k + 1, lo => by
    have h1 : 0 ≤ ns.getD lo 0 := by
      rw [List.getD_eq_getElem?_getD]
      cases e : ns[lo]? with
      | none => simp
      | some d => exact h d (List.mem_of_getElem? e)
    have h2 := Int.mul_nonneg (pow_nonneg N) (valS_nonneg N ns h k (lo + 1))
    simp only [valS]
    omega
theorem le_pow_mul (N : Nat) (x : Int) (hx : 0 ≤ x) : x ≤ 2 ^ N * x := by
  have h1 : (1 : Int) ≤ 2 ^ N := by
    have : (0 : Int) < 2 ^ N := Int.pow_pos (by decide)
    omega
  have := Int.mul_le_mul_of_nonneg_right h1 hx
  omega
/-- a part of the figures tells no more than the whole -/
theorem valS_le (N : Nat) (ns : List Int) (h : ∀ d ∈ ns, 0 ≤ d) (p k q : Nat) : valS N ns p k ≤ valS N ns 0 (p + (k + q)) := by
  rw [valS_add N ns (k + q) p 0, valS_add N ns q k]
  simp only [Nat.zero_add]
  have h1 := valS_nonneg N ns h p 0
  have h2 := valS_nonneg N ns h k p
  have h3 := valS_nonneg N ns h q (p + k)
  have h4 := Int.mul_nonneg (pow_nonneg (N * k)) h3
  have h5 := le_pow_mul (N * p) (valS N ns p k + 2 ^ (N * k) * valS N ns (p + k) q) (by omega)
  omega
theorem valS_cons (N : Nat) (d : Int) (ns : List Int) : ∀ k lo, valS N (d :: ns) (lo + 1) k = valS N ns lo k
  | 0, _ => rfl
  | k + 1, lo => by
    simp only [valS]
    rw [valS_cons N d ns k (lo + 1)]
    simp
theorem valS_all (N : Nat) : ∀ ns : List Int, valS N ns 0 ns.length = valL N ns
  | [] => rfl
  | d :: ns => by
    rw [List.length_cons]
    simp only [valS, valL]
    rw [valS_cons N d ns, valS_all N ns]
    simp
theorem valL_rev_snoc (N : Nat) (qs : List Int) (d : Int) : valL N (qs ++ [d]).reverse = d + 2 ^ N * valL N qs.reverse := by
  simp [valL]
/-- joining two parts -/
theorem join_facts (N : Nat) (ns : List Int) (h : ∀ d ∈ ns, 0 ≤ d) (hb : valS N ns 0 ns.length < 2 ^ 62) (lo p k : Nat) (hl : lo + (p + k) ≤ ns.length) :
    (valS N ns (lo + p) k).natAbs < 2 ^ 64 ∧ valS N ns (lo + p) k * 2 ^ (N * p) + valS N ns lo p = valS N ns lo (p + k) := by
  constructor
  · have h1 := valS_le N ns h (lo + p) k (ns.length - (lo + (p + k)))
    have e : lo + p + (k + (ns.length - (lo + (p + k)))) = ns.length := by omega
    rw [e] at h1
    have h2 := valS_nonneg N ns h k (lo + p)
    omega
  · rw [valS_add, Int.mul_comm]
    omega
theorem dgN_lt (N : Nat) : ∀ k x, ∀ d ∈ dgN N k x, d < 2 ^ N
  | 0, _, _, h => nomatch h
  | k + 1, x, d, h => by
    simp only [dgN, List.mem_cons] at h
    rcases h with rfl | h
    · exact Nat.mod_lt _ (Nat.pow_pos (by decide))
    · exact dgN_lt N k _ d h
theorem dg_nonneg (N k : Nat) (x : Int) : ∀ d ∈ dg N k x, 0 ≤ d := fun d h => by
  obtain ⟨a, _, rfl⟩ := List.mem_map.mp h
  exact Int.natCast_nonneg a
end Mine
/-! plain arithmetic: division figure by figure -/
namespace Mine
theorem dgN_get (N : Nat) : ∀ k x j, j < k → (dgN N k x)[j]? = some (x / 2 ^ (N * j) % 2 ^ N)
  | 0, _, j, h => absurd h (Nat.not_lt_zero _)
  | k + 1, x, 0, _ => by simp [dgN]
  | k + 1, x, j + 1, h => by
    simp only [dgN, List.getElem?_cons_succ]
    rw [dgN_get N k (x / 2 ^ N) j (by omega), Nat.div_div_eq_div_mul, Nat.mul_succ, Nat.pow_add, Nat.mul_comm (2 ^ N)]
theorem dg_get (N k : Nat) (x : Int) (hx : 0 ≤ x) (j : Nat) (h : j < k) : (dg N k x)[j]? = some (x / 2 ^ (N * j) % 2 ^ N) := by
  obtain ⟨X, rfl⟩ := Int.eq_ofNat_of_zero_le hx
  unfold dg
  rw [List.getElem?_map, Int.toNat_natCast, dgN_get N k X j h]
  simp [Int.natCast_emod, Int.natCast_ediv, Int.natCast_pow]
/-- the number that the top i of k figures tell -/
def topN (N k : Nat) (a : Int) (i : Nat) : Int := a / 2 ^ (N * (k - i))
theorem topN_zero (N k : Nat) (a : Int) (h0 : 0 ≤ a) (h : a < 2 ^ (N * k)) : topN N k a 0 = 0 := by
  unfold topN
  rw [Nat.sub_zero]
  exact Int.ediv_eq_zero_of_lt h0 h
theorem topN_all (N k : Nat) (a : Int) : topN N k a k = a := by simp [topN]
theorem topN_nonneg (N k : Nat) (a : Int) (h0 : 0 ≤ a) (i : Nat) : 0 ≤ topN N k a i := Int.ediv_nonneg h0 (pow_nonneg _)
theorem topN_le (N k : Nat) (a : Int) (h0 : 0 ≤ a) (i : Nat) : topN N k a i ≤ a := Int.ediv_le_self _ h0
theorem topN_succ (N k : Nat) (a : Int) (i : Nat) (hi : i < k) : topN N k a (i + 1) = topN N k a i * 2 ^ N + a / 2 ^ (N * (k - 1 - i)) % 2 ^ N := by
  unfold topN
  have e1 : k - i = (k - 1 - i) + 1 := by omega
  have e2 : k - (i + 1) = k - 1 - i := by omega
  have hp : (0 : Int) < 2 ^ (N * (k - 1 - i)) := Int.pow_pos (by decide)
  rw [e1, e2, Nat.mul_succ, Int.pow_add, ← Int.ediv_ediv_of_nonneg (Int.le_of_lt hp)]
  have := Int.mul_ediv_add_emod (a / 2 ^ (N * (k - 1 - i))) (2 ^ N)
  rw [Int.mul_comm] at this
  omega
/-- one turn of the long division -/
theorem turn_facts (b T d P : Int) (hb : 0 < b) (hT : 0 ≤ T) (hd : 0 ≤ d) (hP : 0 < P) :
    (T * P + d) / b = T / b * P + (T % b * P + d) / b ∧ (T * P + d) % b = (T % b * P + d) % b ∧ 0 ≤ T % b * P + d ∧ T % b * P + d ≤ T * P + d ∧ 0 ≤ T % b := by
  have h1 := Int.mul_ediv_add_emod T b
  have h2 := Int.emod_nonneg T (show b ≠ 0 by omega)
  have h3 : 0 ≤ T / b := Int.ediv_nonneg hT (by omega)
  have e : T * P + d = b * (T / b * P) + (T % b * P + d) := by
    calc T * P + d = (b * (T / b) + T % b) * P + d := by rw [h1]
      _ = b * (T / b * P) + (T % b * P + d) := by rw [Int.add_mul, Int.mul_assoc, Int.add_assoc]
  have h4 : 0 ≤ T % b * P := Int.mul_nonneg h2 (by omega)
  have h5 : 0 ≤ b * (T / b * P) := Int.mul_nonneg (by omega) (Int.mul_nonneg h3 (by omega))
  refine ⟨?_, ?_, by omega, by omega, h2⟩
  · rw [e, Int.mul_add_ediv_left _ _ (by omega : b ≠ 0)]
  · rw [e, Int.mul_add_emod_self_left]
end Mine
/-! how often two goes in -/
namespace Mine
/-- how often two goes into y, n times at most -/
def v2f : Nat → Int → Int
  | 0, _ => 0
  | n + 1, y => if y % 2 = 0 then v2f n (y / 2) + 1 else 0
theorem v2f_even (n : Nat) (y : Int) (h : y % 2 = 0) : v2f (n + 1) y = v2f n (y / 2) + 1 := by simp [v2f, h]
theorem v2f_odd (n : Nat) (y : Int) (h : y % 2 ≠ 0) : v2f n y = 0 := by
  cases n with
  | zero => rfl
  | succ n => simp [v2f, h]
theorem v2f_le : ∀ n y, 0 ≤ v2f n y ∧ v2f n y ≤ n
  | 0, _ => by simp [v2f]
  | n + 1, y => by
    by_cases h : y % 2 = 0
    · rw [v2f_even n y h]
      have := v2f_le n (y / 2)
      omega
    · rw [v2f_odd _ y h]
      omega
end Mine
/-! products of all numbers up to a count -/
namespace Mine
def facI : Nat → Int
  | 0 => 1
  | n + 1 => facI n * ((n : Int) + 1)
theorem facI_bounds : ∀ n, n ≤ 18 → 1 ≤ facI n ∧ facI n < 2 ^ 62 := by decide
end Mine
/-! carries -/
namespace Mine
def nils : List Int := [0, 0, 0, 0, 0, 0]
/-- the carry into figure i, and the carries found till then -/
def carS (a b : List Int) : Nat → Int × Int
  | 0 => (0, 0)
  | i + 1 => (if a.getD i 0 + b.getD i 0 + (carS a b i).1 > 1 then 1 else 0, (carS a b i).2 + (if a.getD i 0 + b.getD i 0 + (carS a b i).1 > 1 then 1 else 0))
end Mine
set_option maxRecDepth 100000
set_option maxHeartbeats 8000000
open PySem PySem.W PyProof.Rows
namespace Mine
open_top hd for PySem.Challenge.rw_gb0003_01
end Mine
open PySem.Spec PySem.Calls
namespace Mine
section
/-- the heap `g` has all that `h` has, but what lies at the ledger's addresses -/
def Kept (h : Heap) (news : List (Addr × Obj)) (g : Heap) : Prop :=
  ∀ b o, h.get? b = some o → b ∉ news.map (·.1) → g.get? b = some o
def Back (h₀ : Heap) (L : Addr) (m : Str → Option Value) (g : Heap) (R : Result → Shared → Prop) : Prop :=
  ∀ v s' L' m' news', Fr g L' s'.heap m' → News g L' s'.heap news' →
    (Fr h₀ L s'.heap m → News h₀ L s'.heap news' → R (.ok (.ret v)) s') → R (.ok (.ret v)) s'
section
variable {prog : Program} {w : World} {A₀ A : Around} {s : Shared} {base h₀ : Heap} {outer : List Env} {L : Addr} {m mg mb : Str → Option Value} {env : Env} {news : List (Addr × Obj)} {K : Frag} {p : Program} {loose : List Str} {mean : ExcName → Option Value}
  {R : Result → Shared → Prop} {name qual : Str} {params : Arguments} {body : List Stmt} {scope : Scope} {dV kV doc pm cdv ct oc : Value} {an od : Option Addr} {osl : Array (Option Value)} {f : Addr} {args : Args} {binds : List (Str × Value)}
theorem enter_plain (B : Below A₀ base outer h₀) (F : Fr h₀ L s.heap m) (X₀ : K.In h₀) (N : News h₀ L s.heap news) (T : Top p loose mean mg mb h₀) (hA : A.frames = some (env :: outer)) (hf : env.frame = some L) (hke : env.scope.kind = .function)
    (ho : K.lookup f = some ⟨oc, od, .func (fnOf name qual params body scope dV kV doc pm an cdv ct), osl⟩) (hcd : codeIn K cdv qual = true) (hroom : A.depth < recursionLimit)
    (hbind : BindsTo s (fnOf name qual params body scope dV kV doc pm an cdv ct) args binds) (hloc : ∀ y ∈ binds, scope.names.lookup y.1 = some .local)
    (h : ∀ g L' h₁, Kept s.heap news g → Fr h₀ L g m → Fr g L' h₁ (fun y => binds.reverse.lookup y) → News g L' h₁ news → Below A base (env :: outer) g → K.In g → Top p loose mean mg mb g → h₀.StaysIn g →
      Back h₀ L m g R →
      wpAny (model prog w) (A.deeper (envOf qual scope L' f cdv)) (execs body (envOf qual scope L' f cdv))
        (fun fl s' => R (.ok (.ret (match fl with | .ret v => v | _ => .none))) s')
        (fun e s' => wpAny (model prog w) (A.deeper (envOf qual scope L' f cdv)) (leaving (envOf qual scope L' f cdv) e) (fun _ s'' => R (.error e) s'') (fun e' s'' => R (.error e') s'') s')
        { s with heap := h₁, toks := s.toks + binds.length })
    (hco : scope.isCoroutine = false) (hgen : scope.isGenerator = false) (hk : scope.kind = .function)
    (hcell : ∀ x ∈ scope.names, x.2 ≠ .cell) : codeAny (model prog w) A (.call (.ref f) args) R s := by
  obtain ⟨FG, BG, st, lv⟩ := groundX (R := R) B F N hA hf hke
  refine codeAny_call_def (fd := fnOf name qual params body scope dV kV doc pm an cdv ct) (body := body) (binds := binds) hroom ((X₀.keeps F.keep) _ _ ho) rfl (T.nolimit.keeps F.keep) (codeRec_of (X₀.keeps F.keep) hcd) rfl hbind hcell hloc (fun h₁ hns hk₁ => ?_) hco hgen hk
  refine h _ s.heap.objs.size h₁ (fun b o e hb => hideAll_get _ e hb) FG ⟨hns, fun b o e => hk₁ b o (of_hideAll _ e), Nat.le_of_eq (hideAll_size _ _)⟩
    (fun q hq => ⟨hk₁ _ _ (N q hq).1, Nat.ne_of_lt (Heap.lt_size (N q hq).1), hideAll_none _ (List.mem_map_of_mem hq)⟩) BG (X₀.keeps st) (T.keeps st) st ?_
  exact fun v s' L' m' news' F' N' k => lv v s' ⟨L', m', news', F', N', k⟩
theorem enter_cells (B : Below A₀ base outer h₀) (F : Fr h₀ L s.heap m) (X₀ : K.In h₀) (N : News h₀ L s.heap news) (T : Top p loose mean mg mb h₀) (hA : A.frames = some (env :: outer)) (hf : env.frame = some L) (hke : env.scope.kind = .function)
    (ho : K.lookup f = some ⟨oc, od, .func (fnOf name qual params body scope dV kV doc pm an cdv ct), osl⟩) (hcd : codeIn K cdv qual = true) (hroom : A.depth < recursionLimit)
    (hbind : BindsTo s (fnOf name qual params body scope dV kV doc pm an cdv ct) args binds) (hkind : (binds.all fun y => scope.names.lookup y.1 == some .local || scope.names.lookup y.1 == some .cell) = true)
    (hnd : ((cellsFrom 0 scope.names []).map (·.1)).Nodup)
    (h : ∀ g L' h₁ tk cells, Kept s.heap news g → Fr h₀ L g m → Fr g L' h₁ (bindL (envOfC qual scope L' f cdv).kindOf binds fun _ => none) → News g L' h₁ (cells ++ news) →
      CellsAre (bindC (envOfC qual scope L' f cdv).kindOf binds fun _ => none) (cellsFrom (L' + 1) scope.names []) cells → Below A base (env :: outer) g → K.In g → Top p loose mean mg mb g → h₀.StaysIn g → (∀ q ∈ news, q.1 < L') →
      Back h₀ L m g R →
      wpAny (model prog w) (A.deeper (envOfC qual scope L' f cdv)) (execs body (envOfC qual scope L' f cdv))
        (fun fl s' => R (.ok (.ret (match fl with | .ret v => v | _ => .none))) s')
        (fun e s' => wpAny (model prog w) (A.deeper (envOfC qual scope L' f cdv)) (leaving (envOfC qual scope L' f cdv) e) (fun _ s'' => R (.error e) s'') (fun e' s'' => R (.error e') s'') s')
        { s with heap := h₁, toks := tk })
    (hco : scope.isCoroutine = false) (hgen : scope.isGenerator = false) (hk : scope.kind = .function) : codeAny (model prog w) A (.call (.ref f) args) R s := by
  obtain ⟨FG, BG, st, lv⟩ := groundX (R := R) B F N hA hf hke
  refine codeAny_call_function hroom ((X₀.keeps F.keep) _ _ ho) rfl hco hgen rfl (codeRec_of (X₀.keeps F.keep) hcd) (hbind _ _ _ _ ?_)
  refine wpAny_newFunctionEnv_cells hk (kindsX hkind _) fun env' he s' x => ?_
  subst he
  refine ⟨(T.nolimit.keeps F.keep).keeps x.toInCall.keep, codeAny_func ?_⟩
  obtain ⟨h₁, tk, rfl, _⟩ := x.done
  have hk₁ := x.toInCall.keep
  obtain ⟨cells, NC, Y⟩ := Cl.news (h₀ := s.heap) (Nat.le_refl _) fun n c hm => ⟨x.cell n c (lookup_of_mem_nodup (cellsFrom_names scope.names 0 (s.heap.objs.size + 1) [] [] rfl ▸ hnd) hm), x.above n c hm⟩
  refine h _ s.heap.objs.size h₁ tk cells (fun b o e hb => hideAll_get _ e hb) FG ⟨x.toInCall.ns, fun b o e => hk₁ b o (of_hideAll _ e), Nat.le_of_eq (hideAll_size _ _)⟩ (fun q hq => ?_) Y BG (X₀.keeps st) (T.keeps st) st (fun q hq => Heap.lt_size (N q hq).1) ?_
  · rcases List.mem_append.mp hq with hq | hq
    · refine ⟨(NC q hq).1, (NC q hq).2.1, ?_⟩
      cases e : (hideAll s.heap (news.map (·.1))).get? q.1 with
      | none => rfl
      | some o => have := of_hideAll _ e; rw [(NC q hq).2.2] at this; cases this
    · exact ⟨hk₁ _ _ (N q hq).1, Nat.ne_of_lt (Heap.lt_size (N q hq).1), hideAll_none _ (List.mem_map_of_mem hq)⟩
  · exact fun v s' L' m' news' F' N' k => lv v s' ⟨L', m', news', F', N', k⟩
end
/-! ## the two tables of codes, and what a call of ours asks and leaves -/
abbrev qI : Str := Str.ofString "_int2digits.<locals>.inner"
abbrev qD : Str := Str.ofString "_digits2int.<locals>.inner"
inductive TS (P : Addr) (line col : Int) (qual : Str) : Array Value → Addr → Obj → Prop
  | empty : TS P line col qual #[] P (tabObj #[])
  | full {c : Addr} {o : Obj} {vs : Array Value} {t : Tok} : o.data = .fields vs → vs[1]? = some (.str qual t) → TS P line col qual #[rawInt line, rawInt col, .ref c] c o
abbrev T4 (q r : Array Value) (c d : Addr) (o u : Obj) : List (Addr × Obj) := [(37, tabObj q), (30, tabObj r), (c, o), (d, u)]
structure Tab (q r : Array Value) (c d : Addr) (o u : Obj) : Prop where
  a : TS 37 47 4 qD q c o
  b : TS 30 32 4 qI r d u
  n1 : @Ne Nat c 30
  n2 : @Ne Nat d 37
structure Off (rest : List (Addr × Obj)) (c d : Addr) : Prop where
  all : ∀ x ∈ rest, @Ne Nat x.1 37 ∧ @Ne Nat x.1 30 ∧ @Ne Nat x.1 c ∧ @Ne Nat x.1 d
/-- an object that is no code's record and no table of codes -/
def ObjF (o : Obj) : Prop := ∀ vs, o.data = .fields vs → o.cls ≠ .none ∧ ∀ q t, vs[1]? ≠ some (.str q t)
/-- no object of the list is a code's record or a table of codes -/
def NoF (l : List (Addr × Obj)) : Prop := ∀ x ∈ l, ObjF x.2
theorem noF_nil : NoF [] := fun _ h => nomatch h
theorem noF_cons {a : Addr} {o : Obj} {r : List (Addr × Obj)} (h1 : ObjF o) (h : NoF r) : NoF ((a, o) :: r) := fun x hx => by
  rcases List.mem_cons.mp hx with rfl | hx
  · exact h1
  · exact h x hx
theorem TS.notF {P : Addr} {line col : Int} {qual : Str} {q : Array Value} {c : Addr} {o : Obj} (h : TS P line col qual q c o) : ¬ ObjF o := fun hf => by
  cases h with
  | empty => exact (hf _ rfl).1 rfl
  | full h1 h2 => exact (hf _ h1).2 _ _ h2
theorem off_of {h₀ h : Heap} {L : Addr} {rest : List (Addr × Obj)} {q r : Array Value} {c d : Addr} {o u : Obj} (N : News h₀ L h (rest ++ T4 q r c d o u)) (tab : Tab q r c d o u) (nf : NoF rest) : Off rest c d := .mk fun x hx => by
  have hx' := (N x (List.mem_append_left _ hx)).1
  have key : ∀ (a : Addr) (b : Obj), (a, b) ∈ T4 q r c d o u → ¬ ObjF b → x.1 ≠ a := fun a b hb hd e => by
    have h2 := (N (a, b) (List.mem_append_right _ hb)).1
    rw [e] at hx'
    have h3 : some x.2 = some b := hx'.symm.trans h2
    cases h3
    exact hd (nf x hx)
  exact ⟨key 37 _ (.head _) fun hf => (hf _ rfl).1 rfl, key 30 _ (.tail _ (.head _)) fun hf => (hf _ rfl).1 rfl, key c o (.tail _ (.tail _ (.head _))) tab.a.notF, key d u (.tail _ (.tail _ (.tail _ (.head _)))) tab.b.notF⟩
def Con (w : World) (f : Addr) (vs : List Value) (dn : Nat) (Arg : List (Addr × Obj) → Prop) (Out : Value → List (Addr × Obj) → Prop) : Prop :=
  ∀ (p : Program) (loose : List Str) (mean : ExcName → Option Value) (mg mb : Str → Option Value) (dp un : Nat) (gd : Option (List Code)) (cn : Str) (cs : Scope) (a : Addr) (ccd : Value) (cl : List (Str × Addr)) (outer : List Env) (A₀ : Around) (base h₀ : Heap) (L : Addr)
    (m : Str → Option Value) (rest : List (Addr × Obj)) (q r : Array Value) (c d : Addr) (o u : Obj) (s : Shared) (Q E : Value → Shared → Prop),
    Below A₀ base outer h₀ → Fr h₀ L s.heap m → (hd.heap_39 w.params).In h₀ → News h₀ L s.heap (rest ++ T4 q r c d o u) → Top p loose mean mg mb h₀ → cs.kind = .function →
    CodeHd h₀ 41 37 → CodeHd h₀ 34 30 → Tab q r c d o u → Off rest c d → Arg rest → dp + dn < recursionLimit → un + 8 * dn < cLine →
    (∀ v new q' r' c' d' o' u' h' tk', Fr h₀ L h' m → News h₀ L h' (new ++ (rest ++ T4 q' r' c' d' o' u')) → Tab q' r' c' d' o' u' → Off (new ++ rest) c' d' → (∀ x ∈ new, ∀ y ∈ rest, @Ne Nat x.1 y.1) → Out v new → Q v { s with heap := h', toks := tk' }) →
    wpAny (model PySem.Challenge.rw_gb0003_01.row.prog w) (ktrTop dp un gd cn cs L a ccd cl outer) (call (.ref f) vs) Q E s
/-- what is to be shown where a body of ours returns -/
structure Fin (g : Heap) (gens : Array GenState) (drawn : Drawn) (os : OsState) (Out : Value → List (Addr × Obj) → Prop) (Q : Value → Shared → Prop) : Prop where
  out : ∀ (v : Value) (new : List (Addr × Obj)) (q' r' : Array Value) (c' d' : Addr) (o' u' : Obj) (h' : Heap) (tk : Nat) (L'' : Addr) (m' : Str → Option Value),
    Fr g L'' h' m' → News g L'' h' (new ++ T4 q' r' c' d' o' u') → Tab q' r' c' d' o' u' → NoF new → Out v new → Q v { heap := h', gens := gens, drawn := drawn, toks := tk, os := os }
section
variable {h₀ g h' : Heap} {L L' : Addr} {m m' : Str → Option Value} {rest new : List (Addr × Obj)} {q r q' r' : Array Value} {c d c' d' : Addr} {o u o' u' : Obj} {s : Shared} {R : Result → Shared → Prop} {v : Value} {tk : Nat}
theorem con_end (N : News h₀ L s.heap (rest ++ T4 q r c d o u)) (_tab : Tab q r c d o u) (off : Off rest c d) (kp : Kept s.heap (T4 q r c d o u) g) (bk : Back h₀ L m g R)
    (F' : Fr g L' h' m') (N' : News g L' h' (new ++ T4 q' r' c' d' o' u')) (tab' : Tab q' r' c' d' o' u') (nf' : NoF new)
    (hret : Fr h₀ L h' m → News h₀ L h' (new ++ (rest ++ T4 q' r' c' d' o' u')) → Off (new ++ rest) c' d' → (∀ x ∈ new, ∀ y ∈ rest, @Ne Nat x.1 y.1) → R (.ok (.ret v)) { s with heap := h', toks := tk }) :
    R (.ok (.ret v)) { s with heap := h', toks := tk } := by
  have hoff := off.all
  have hnew := (off_of N' tab' nf').all
  have hg : ∀ x ∈ rest, g.get? x.1 = some x.2 := fun x hx => kp x.1 x.2 (N x (List.mem_append_left _ hx)).1 (by
    obtain ⟨a1, a2, a3, a4⟩ := hoff x hx
    simp [a1, a2, a3, a4])
  have hne : ∀ y : Addr × Obj, g.get? y.1 = none → ∀ x ∈ rest, x.1 ≠ y.1 := fun y hy x hx e => by
    have := hg x hx
    rw [e, hy] at this; cases this
  refine bk v { s with heap := h', toks := tk } L' m' _ F' N' fun F₁ N₁ => hret F₁ (fun x hx => ?_) (.mk fun x hx => ?_) (fun x hx y hy => ?_)
  · rcases List.mem_append.mp hx with hx | hx
    · exact N₁ x (List.mem_append_left _ hx)
    · rcases List.mem_append.mp hx with hx | hx
      · exact ⟨F'.keep _ _ (hg x hx), (N x (List.mem_append_left _ hx)).2⟩
      · exact N₁ x (List.mem_append_right _ hx)
  · rcases List.mem_append.mp hx with hx | hx
    · exact hnew x hx
    · obtain ⟨a1, a2, a3, a4⟩ := hoff x hx
      exact ⟨a1, a2, hne (c', o') (N' (c', o') (List.mem_append_right _ (.tail _ (.tail _ (.head _))))).2.2 x hx, hne (d', u') (N' (d', u') (List.mem_append_right _ (.tail _ (.tail _ (.tail _ (.head _)))))).2.2 x hx⟩
  · exact fun e => hne x (N' x (List.mem_append_left _ hx)).2.2 y hy e.symm
theorem con_fin {Q E : Value → Shared → Prop} {Out : Value → List (Addr × Obj) → Prop} (N : News h₀ L s.heap (rest ++ T4 q r c d o u)) (tab : Tab q r c d o u) (off : Off rest c d) (kp : Kept s.heap (T4 q r c d o u) g)
    (bk : Back h₀ L m g fun r s' => match r with | .ok (.ret v) => Q v s' | .ok _ => False | .error e => E e s')
    (hret : ∀ v new q' r' c' d' o' u' h' tk', Fr h₀ L h' m → News h₀ L h' (new ++ (rest ++ T4 q' r' c' d' o' u')) → Tab q' r' c' d' o' u' → Off (new ++ rest) c' d' → (∀ x ∈ new, ∀ y ∈ rest, @Ne Nat x.1 y.1) → Out v new → Q v { s with heap := h', toks := tk' }) :
    Fin g s.gens s.drawn s.os Out Q :=
  .mk fun _ _ _ _ _ _ _ _ _ _ _ _ F' N' tab' hn ho => con_end (R := fun r s' => match r with | .ok (.ret v) => Q v s' | .ok _ => False | .error e => E e s') N tab off kp bk F' N' tab' hn fun F₁ N₁ h1 h2 => hret _ _ _ _ _ _ _ _ _ _ F₁ N₁ tab' h1 h2 ho
theorem t4_of (N : News h₀ L h' (rest ++ T4 q r c d o u)) : News h₀ L h' (T4 q r c d o u) := fun x hx => N x (List.mem_append_right _ hx)
end
theorem Fin.one {g : Heap} {gens : Array GenState} {drawn : Drawn} {os : OsState} {Out : Value → List (Addr × Obj) → Prop} {Q : Value → Shared → Prop} {v : Value} {l : Addr} {x : Obj} {q r : Array Value} {c d : Addr} {o u : Obj} {h : Heap} {tk : Nat} {L : Addr} {m : Str → Option Value}
    (fin : Fin g gens drawn os Out Q) (F : Fr g L h m) (N : News g L h ((l, x) :: T4 q r c d o u)) (tab : Tab q r c d o u) (nf : ObjF x) (ho : Out v [(l, x)]) : Q v { heap := h, gens := gens, drawn := drawn, toks := tk, os := os } :=
  fin.out v [(l, x)] q r c d o u h tk L m F N tab (noF_cons nf noF_nil) ho
theorem Fin.none {g : Heap} {gens : Array GenState} {drawn : Drawn} {os : OsState} {Out : Value → List (Addr × Obj) → Prop} {Q : Value → Shared → Prop} {v : Value} {q r : Array Value} {c d : Addr} {o u : Obj} {h : Heap} {tk : Nat} {L : Addr} {m : Str → Option Value}
    (fin : Fin g gens drawn os Out Q) (F : Fr g L h m) (N : News g L h (T4 q r c d o u)) (tab : Tab q r c d o u) (ho : Out v []) : Q v { heap := h, gens := gens, drawn := drawn, toks := tk, os := os } :=
  fin.out v [] q r c d o u h tk L m F N tab noF_nil ho
theorem fill : (fun (_ : OpenLaw) (_ : Params → Frag) => True) PySem.Challenge.rw_gb0003_01 hd.heap_39 := by
  k_fill
  trivial
end
section
theorem fresh1 : True := by
  w_top off
  first | walk1 | trivial
theorem fill2 : (fun (_ : OpenLaw) (_ : Params → Frag) => True) PySem.Challenge.rw_gb0003_01 hd.heap_39 := by
  k_fill
  trivial
local macro_rules | `(tactic| walk_at "mine enter") => `(tactic| (
  refine wpAny_call ?_
  refine' enter_plain ?k1 ?k2 ?k3 ?k4 ?k5 ?kA ?kF ?kK ?k6 ?k7 ?k8 ?k9 ?kB ?_ ?c2 ?c3 ?c4 ?c5; (case kA => exact rfl); (case kF => exact rfl); (case kK => assumption); (case k1 => k_asm); (case k2 => k_asm); (case k3 => k_asm); (case k4 => k_asm); (case k5 => k_asm); (case k6 => k_is); (case k7 => k_is); (case k8 => ktr_room); (case k9 => exact BindsTo.of_eq rfl); (case c5 => decide); (case kB => exact locs rfl); (case c2 => exact rfl); (case c3 => exact rfl); (case c4 => exact rfl); k_whole; (try dsimp only)))
/-- a call hands back one int and leaves nothing else -/
def OutI (n : Int) (v : Value) (new : List (Addr × Obj)) : Prop := new = [] ∧ ∃ t, v = .int n t
/-- a call hands back a new pair of ints -/
def Out2 (x y : Int) (v : Value) (new : List (Addr × Obj)) : Prop :=
  ∃ l t1 t2, v = .ref l ∧ new = [(l, { cls := .type "tuple", data := .seq #[.int x t1, .int y t2] })]
theorem out2_of {x y x' y' : Int} {l : Addr} {t1 t2 : Tok} (e1 : x = x') (e2 : y = y') : Out2 x' y' (.ref l) [(l, { cls := .type "tuple", data := .seq #[.int x t1, .int y t2] })] := by
  subst e1; subst e2
  exact ⟨_, _, _, rfl, rfl⟩
theorem bits_le (a : Int) (h : 0 ≤ a) (h2 : a < 2 ^ 62) : (Builtin.Int.intBits a : Int) ≤ 62 := by
  unfold Builtin.Int.intBits
  split
  · decide
  · rename_i hz
    have hz' : a ≠ 0 := by simpa using hz
    have h1 : a.natAbs < 2 ^ 62 := by omega
    have h0 : a.natAbs ≠ 0 := by omega
    have := (Nat.log2_lt h0).mpr h1
    omega
theorem noPy (a b : Int) (h : 0 < b) (h2 : b < 2 ^ 62) : Builtin.divisionGoesByPylong a b = false := by
  refine PyProof.noPylong_of_log2 ?_
  have h1 : b.natAbs < 2 ^ 62 := by omega
  have h0 : b.natAbs ≠ 0 := by omega
  have := (Nat.log2_lt h0).mpr h1
  omega
local macro_rules | `(tactic| walk_at "call builtin:divmod") => `(tactic| (refine divmod_N (by assumption) (by assumption) (by omega) ?_ (Or.inl (by assumption)); intro _ _ _))
theorem con_div2n1n (w : World) (a b n : Int) (ta tb tn : Tok) (ha : 0 ≤ a) (ha2 : a < 2 ^ 62) (hb : 0 < b) (hb2 : b < 2 ^ 62) (hn : 0 ≤ n) (hn2 : n < 2 ^ 62) :
    Con w 21 [.int a ta, .int b tb, .int n tn] 4 (fun _ => True) (Out2 (a / b) (a % b)) := by
  unfold Con
  intro p loose mean mg mb dp un gd cn cs aa ccd cl outer A₀ base h₀ L m rest q r c d o u s Q E B F X N T hk C1 C2 hT hO hA hdp hun hret
  have N4 := t4_of N
  k_dflt (walk_at "mine enter")
  intro g L' h₁ kp FG F' N' B' X' T' st bk
  have fin := con_fin N hT hO kp bk hret
  have hbits := bits_le a ha (by omega : a < 2 ^ 62)
  have hnp := noPy a b hb hb2
  clear N4 N hO kp bk hret F X T B hA
  (try dsimp only); (try k_fold)
  k_steps
  refine' Fin.one fin ?F ?N ?tab ?nf ?out
  case F => assumption
  case N => assumption
  case tab => assumption
  case nf => intro _ h; cases h
  case out => exact out2_of (Int.fdiv_eq_ediv_of_nonneg _ (by omega)) (Int.fmod_eq_emod_of_nonneg _ (by omega))
end
section
section
variable {M : Model} {A : Around} {E : Value → Shared → Prop} {s : Shared} {h₀ : Heap} {L a c P : Addr} {m mg mb : Str → Option Value} {cn : Str} {cs : Scope} {ccd : Value} {cl : List (Str × Addr)} {oth : List (Addr × Obj)}
  {p : Program} {loose : List Str} {mean : ExcName → Option Value} {name qual : Str} {params : Arguments} {body : List Stmt} {scope : Scope} {ps : Array Value} {pos : Pos} {firstLine : Nat} {clos : List (Str × Addr)} {d : Addr} {u : Obj} {line col : Int}
theorem nestG {Q : Value → Shared → Prop} (F : Fr h₀ L s.heap m) (N : News h₀ L s.heap (oth ++ [(P, tabObj ps), (d, u)])) (T : Top p loose mean mg mb h₀) (C : CodeHd h₀ c P) (hcd : ccd = .ref c)
    (ts : TS P line col qual ps d u) (hl : line = pos.line) (hc : col = pos.col) (hoth : ∀ x ∈ oth, x.1 ≠ P) (hself : ∀ e : Addr, codeAmong pos [rawInt pos.line, rawInt pos.col, .ref e] = some (.ref e))
    (hcl : closureFor scope (envX cn cs L a ccd cl) = pure clos)
    (h : ∀ f d' u' ps' ctv doc h' tk, Fr h₀ L h' m → News h₀ L h' ((f, fnMade name qual params body scope clos doc ((mg "__name__").getD .none) d' ctv) :: (oth ++ [(P, tabObj ps'), (d', u')])) →
      TS P line col qual ps' d' u' → (∃ vs t, u'.data = .fields vs ∧ vs[1]? = some (.str qual t)) → (∀ x ∈ oth, x.1 < f) → @Ne Nat d' P → (∀ x ∈ oth, @LT.lt Nat _ x.1 d' ∨ @Eq Nat d' d) → Q (.ref f) { s with heap := h', toks := tk }) :
    wpAny M A (makeFunction name qual params (.stmts body) scope (envX cn cs L a ccd cl) [] [] [] pos firstLine) Q E s := by
  subst hl; subst hc
  cases ts with
  | empty =>
    have N₁ : News h₀ L s.heap (oth ++ [(P, tabObj #[])]) := fun x hx => N x (by
      rcases List.mem_append.mp hx with hx | hx
      · exact List.mem_append_left _ hx
      · exact List.mem_append_right _ (by rw [List.mem_singleton.mp hx]; exact .head _))
    have U : UpdF P (tabObj #[]) (oth ++ [(P, tabObj #[])]) (fun o' => oth ++ [(P, o')]) := by
      clear N N₁ h
      induction oth with
      | nil => exact .head fun _ h => nomatch h
      | cons y ys ih => exact .tail (hoth y (.head _)) (ih fun x hx => hoth x (.tail _ hx))
    refine nest_K F N₁ T C hcd U trivial rfl hcl fun f c' oc vs t ctv doc h' tk F' N' hd hv hlt hf => ?_
    refine h f c' oc _ ctv doc h' tk F' (fun x hx => N' x ?_) (.full hd hv) ⟨vs, t, hd, hv⟩ (fun x hx => Nat.lt_trans (hlt x (List.mem_append_left _ hx)) hf) (Nat.ne_of_gt (hlt (P, tabObj #[]) (List.mem_append_right _ (.head _)))) (fun x hx => .inl (hlt x (List.mem_append_left _ hx)))
    rcases List.mem_cons.mp hx with rfl | hx
    · exact .head _
    · refine .tail _ ?_
      rcases List.mem_append.mp hx with hx | hx
      · exact .tail _ (List.mem_append_left _ hx)
      · rcases List.mem_cons.mp hx with rfl | hx
        · exact .tail _ (List.mem_append_right _ (.head _))
        · rw [List.mem_singleton.mp hx]; exact .head _
  | full hd hv =>
    have hne : d ≠ P := fun e => by
      have h1 := (N (P, _) (List.mem_append_right _ (.head _))).1
      have h2 := (N (d, u) (List.mem_append_right _ (.tail _ (.head _)))).1
      rw [e] at h2
      have h3 := h1.symm.trans h2
      cases h3
      cases hd
      cases hv
    refine nestHit_K F N T C hcd (List.mem_append_right _ (.head _)) (by simp [TriplesOk, rawInt]) (hself _) hcl fun f ctv doc h' tk F' N' hlt => ?_
    exact h f d u _ ctv doc h' tk F' N' (.full hd hv) ⟨_, _, hd, hv⟩ (fun x hx => hlt x (List.mem_append_left _ hx)) hne (fun x hx => .inr rfl)
end
theorem News.five {h₀ h : Heap} {L : Addr} {news : List (Addr × Obj)} {a1 a2 a3 a4 a5 : Addr × Obj} (N : News h₀ L h news) (m1 : a1 ∈ news) (m2 : a2 ∈ news) (m3 : a3 ∈ news) (m4 : a4 ∈ news) (m5 : a5 ∈ news) : News h₀ L h [a1, a2, a3, a4, a5] :=
  List.forall_mem_cons.mpr ⟨N _ m1, List.forall_mem_cons.mpr ⟨N _ m2, List.forall_mem_cons.mpr ⟨N _ m3, List.forall_mem_cons.mpr ⟨N _ m4, List.forall_mem_cons.mpr ⟨N _ m5, List.forall_mem_nil _⟩⟩⟩⟩⟩
theorem News.four {h₀ h : Heap} {L : Addr} {news : List (Addr × Obj)} {a1 a2 a3 a4 : Addr × Obj} (N : News h₀ L h news) (m1 : a1 ∈ news) (m2 : a2 ∈ news) (m3 : a3 ∈ news) (m4 : a4 ∈ news) : News h₀ L h [a1, a2, a3, a4] :=
  List.forall_mem_cons.mpr ⟨N _ m1, List.forall_mem_cons.mpr ⟨N _ m2, List.forall_mem_cons.mpr ⟨N _ m3, List.forall_mem_cons.mpr ⟨N _ m4, List.forall_mem_nil _⟩⟩⟩⟩
/-- the figures of a, n bits each -/
def figs (a n : Int) : List Int := dg n.toNat (((Builtin.Int.intBits a : Int) + n - 1).fdiv n).toNat a
/-- a call hands back a new list of these ints -/
def OutL (ns : List Int) (v : Value) (new : List (Addr × Obj)) : Prop :=
  ∃ l vs n₀, v = .ref l ∧ new = [(l, listOf vs.toArray n₀)] ∧ IntsAre vs ns
/-! ## int steps whose value is said by an equation in hand -/
section
variable {prog : Program} {w : World} {A : Around} {E : Value → Shared → Prop} {s : Shared} {a b c : Int} {t u : Tok} {Q : Value → Shared → Prop}
theorem mul_by (e : a * b = c) (ha : Builtin.Int.intBits a ≤ 64) (h : Q (.int c s.toks) { s with toks := s.toks + 1 }) : wpAny (model prog w) A (binaryOp .Mult (.int a t) (.int b u)) Q E s := by
  subst e
  exact PyProof.Rows.mul_int h (IntMulOk.of_left ha)
theorem rsh_by (e : a.fdiv (2 ^ b.toNat) = c) (hb : 0 ≤ b) (h : Q (.int c s.toks) { s with toks := s.toks + 1 }) : wpAny (model prog w) A (binaryOp .RShift (.int a t) (.int b u)) Q E s := by
  subst e
  exact rshift_int hb h
theorem lsh_by (e : a * 2 ^ b.toNat = c) (hb : 0 ≤ b) (hb2 : b ≤ 1000000) (ha : a.natAbs < 2 ^ 64) (h : Q (.int c s.toks) { s with toks := s.toks + 1 }) : wpAny (model prog w) A (binaryOp .LShift (.int a t) (.int b u)) Q E s := by
  subst e
  exact lshift_int_small hb hb2 ha h
theorem xor_by (e : Builtin.bitXor a b = c) (h : Q (.int c s.toks) { s with toks := s.toks + 1 }) : wpAny (model prog w) A (binaryOp .BitXor (.int a t) (.int b u)) Q E s := by
  subst e
  exact xor_int h
end
theorem xor_low (X s : Nat) : Builtin.bitXor (X : Int) (((X : Int) / 2 ^ s) * 2 ^ s) = (X : Int) % 2 ^ s := by
  have e : ((X : Int) / 2 ^ s) * 2 ^ s = ((X / 2 ^ s * 2 ^ s : Nat) : Int) := by simp [Int.natCast_ediv, Int.natCast_mul, Int.natCast_pow]
  have h : X &&& (X / 2 ^ s * 2 ^ s) = X / 2 ^ s * 2 ^ s := by
    rw [← Nat.shiftRight_eq_div_pow, ← Nat.shiftLeft_eq]
    apply Nat.eq_of_testBit_eq
    intro i
    simp only [Nat.testBit_and, Nat.testBit_shiftLeft, Nat.testBit_shiftRight]
    by_cases hi : s ≤ i
    · have : s + (i - s) = i := by omega
      simp [hi, this]
    · simp [hi]
  rw [e, bitXor_and, bitAnd_pp (by omega) (by omega), Int.toNat_natCast, Int.toNat_natCast, h, ← e]
  have := Int.mul_ediv_add_emod (X : Int) (2 ^ s)
  rw [Int.mul_comm] at this
  omega
theorem ndig_ex (a n : Int) (ha : 0 ≤ a) (ha2 : a < 2 ^ 62) (hn : 0 < n) (hn2 : n ≤ 62) :
    ∃ k : Nat, ((Builtin.Int.intBits a : Int) + n - 1).fdiv n = (k : Int) ∧ k ≤ 62 ∧ a < 2 ^ (n.toNat * k) ∧ (a = 0 → k = 0) ∧ (a ≠ 0 → 0 < k) := by
  have hb := bits_le a ha ha2
  generalize hB : Builtin.Int.intBits a = B at *
  have h0 : 0 ≤ ((B : Int) + n - 1) / n := Int.ediv_nonneg (by omega) (by omega)
  obtain ⟨k, hk⟩ := Int.eq_ofNat_of_zero_le h0
  have h1 := Int.mul_ediv_add_emod ((B : Int) + n - 1) n
  have h2 := Int.emod_nonneg ((B : Int) + n - 1) (show n ≠ 0 by omega)
  have h3 := Int.emod_lt_of_pos ((B : Int) + n - 1) hn
  rw [hk] at h1
  have hnk : (B : Int) ≤ n * k := by omega
  have hnk2 : n * k ≤ (B : Int) + n - 1 := by omega
  have hle : a < 2 ^ B := by
    unfold Builtin.Int.intBits at hB
    split at hB
    · rename_i hz
      have : a = 0 := by simpa using hz
      rw [this]
      exact Int.pow_pos (by decide)
    · have h4 : a.natAbs < 2 ^ (a.natAbs.log2 + 1) := Nat.lt_log2_self
      rw [hB] at h4
      have h5 : ((a.natAbs : Nat) : Int) < ((2 ^ B : Nat) : Int) := by exact_mod_cast h4
      have h8 : ((2 ^ B : Nat) : Int) = (2 : Int) ^ B := by simp [Int.natCast_pow]
      rw [h8] at h5
      omega
  have hN : (n.toNat : Int) = n := by omega
  refine ⟨k, ?_, ?_, ?_, ?_, ?_⟩
  · rw [Int.fdiv_eq_ediv_of_nonneg _ (by omega), hk]
  · -- k ≤ n * k ≤ B + n - 1; k ≤ (B + n - 1) / n
    by_cases hk62 : k ≤ 62
    · exact hk62
    · exfalso
      have h6 : n * 63 ≤ n * k := Int.mul_le_mul_of_nonneg_left (by omega) (by omega)
      omega
  · have h7 : B ≤ n.toNat * k := by
      have : ((n.toNat * k : Nat) : Int) = n * k := by rw [Int.natCast_mul, hN]
      omega
    refine Int.lt_of_lt_of_le hle ?_
    have : (2 : Nat) ^ B ≤ 2 ^ (n.toNat * k) := Nat.pow_le_pow_right (by decide) h7
    exact_mod_cast this
  · intro e
    have hB0 : B = 0 := by rw [← hB, e]; rfl
    rw [hB0] at hnk2
    by_cases hk0 : k = 0
    · exact hk0
    · exfalso
      have h6 : n * 1 ≤ n * k := Int.mul_le_mul_of_nonneg_left (by omega) (by omega)
      omega
  · intro e
    have hB1 : 0 < B := by
      rw [← hB]
      unfold Builtin.Int.intBits
      have : (a == 0) = false := by simpa using e
      rw [this]
      simp
    by_cases hk0 : k = 0
    · exfalso
      rw [hk0] at hnk
      simp at hnk
      omega
    · omega
/-- what one turn of the splitting computes -/
theorem split_facts (x lo hi n : Int) (j : Nat) (hn : 0 < n) (hn2 : n ≤ 62) (h0 : 0 ≤ lo) (hj : j ≤ 61) (hhi : hi = lo + ((j : Int) + 1)) (hx : 0 ≤ x) (hx2 : x < 2 ^ 62) (hx3 : x < 2 ^ (n.toNat * (j + 1))) :
    ∃ (p k : Nat) (sh up wv low : Int), p + k = j + 1 ∧ (1 ≤ j → 1 ≤ p) ∧ (1 ≤ j → 1 ≤ k) ∧ (lo + hi).fdiv (2 ^ (1 : Int).toNat) = lo + p ∧ (lo + (p : Int) - lo) * n = sh ∧ 0 ≤ sh ∧ sh ≤ 1000000 ∧ Builtin.Int.intBits (lo + (p : Int) - lo) ≤ 64 ∧
      x.fdiv (2 ^ sh.toNat) = up ∧ up.natAbs < 2 ^ 64 ∧ up * 2 ^ sh.toNat = wv ∧ Builtin.bitXor x wv = low ∧ 0 ≤ low ∧ low < 2 ^ 62 ∧ low < 2 ^ (n.toNat * p) ∧ 0 ≤ up ∧ up < 2 ^ 62 ∧ up < 2 ^ (n.toNat * k) ∧
      dg n.toNat (j + 1) x = dg n.toNat p low ++ dg n.toNat k up := by
  obtain ⟨N, rfl⟩ := Int.eq_ofNat_of_zero_le (Int.le_of_lt hn)
  obtain ⟨X, rfl⟩ := Int.eq_ofNat_of_zero_le hx
  simp only [Int.toNat_natCast] at *
  have hN : N ≤ 62 := by omega
  have hX3 : X < 2 ^ (N * (j + 1)) := by exact_mod_cast hx3
  have hX2 : X < 2 ^ 62 := by exact_mod_cast hx2
  refine ⟨(j + 1) / 2, j + 1 - (j + 1) / 2, ((N * ((j + 1) / 2) : Nat) : Int), ((X / 2 ^ (N * ((j + 1) / 2)) : Nat) : Int), (X : Int) / 2 ^ (N * ((j + 1) / 2)) * 2 ^ (N * ((j + 1) / 2)), ((X % 2 ^ (N * ((j + 1) / 2)) : Nat) : Int), ?_, ?_, ?_, ?_, ?_, ?_, ?_, ?_, ?_, ?_, ?_, ?_, ?_, ?_, ?_, ?_, ?_, ?_, ?_⟩
  · omega
  · omega
  · omega
  · rw [Int.fdiv_eq_ediv_of_nonneg _ (by decide)]
    have : (2 : Int) ^ (1 : Int).toNat = 2 := by decide
    rw [this]
    omega
  · rw [Int.natCast_mul]
    have : lo + (((j + 1) / 2 : Nat) : Int) - lo = (((j + 1) / 2 : Nat) : Int) := by omega
    rw [this, Int.mul_comm]
  · omega
  · have : N * ((j + 1) / 2) ≤ 62 * 62 := Nat.mul_le_mul hN (by omega)
    omega
  · have := bits_le (lo + (((j + 1) / 2 : Nat) : Int) - lo) (by omega) (by omega)
    omega
  · rw [Int.toNat_natCast, Int.fdiv_eq_ediv_of_nonneg _ (Int.le_of_lt (Int.pow_pos (by decide)))]
    simp [Int.natCast_ediv, Int.natCast_pow]
  · rw [Int.natAbs_natCast]
    have := Nat.div_le_self X (2 ^ (N * ((j + 1) / 2)))
    omega
  · rw [Int.toNat_natCast]
    simp [Int.natCast_ediv, Int.natCast_pow]
  · rw [xor_low]
    simp [Int.natCast_emod, Int.natCast_pow]
  · omega
  · have := Nat.mod_le X (2 ^ (N * ((j + 1) / 2)))
    omega
  · have := Nat.mod_lt X (show 0 < 2 ^ (N * ((j + 1) / 2)) from Nat.pow_pos (by decide))
    exact_mod_cast this
  · exact Int.natCast_nonneg _
  · have := Nat.div_le_self X (2 ^ (N * ((j + 1) / 2)))
    omega
  · have h : X / 2 ^ (N * ((j + 1) / 2)) < 2 ^ (N * (j + 1 - (j + 1) / 2)) := by
      rw [Nat.div_lt_iff_lt_mul (Nat.pow_pos (by decide)), ← Nat.pow_add, ← Nat.mul_add]
      have : j + 1 - (j + 1) / 2 + (j + 1) / 2 = j + 1 := by omega
      rw [this]
      exact hX3
    exact_mod_cast h
  · have e : j + 1 = (j + 1) / 2 + (j + 1 - (j + 1) / 2) := by omega
    have h := dg_add N ((j + 1) / 2) (j + 1 - (j + 1) / 2) (X : Int) (by omega)
    rw [← e] at h
    rw [h]
    simp [Int.natCast_emod, Int.natCast_ediv, Int.natCast_pow]
end
local macro_rules | `(tactic| walk_at "mine enterC") => `(tactic| ((case kA => exact rfl); (case kF => exact rfl); (case kK => assumption); (case k1 => k_asm); (case k2 => k_asm); (case k3 => k_asm); (case k4 => k_asm); (case k5 => k_asm); (case k6 => k_is); (case k7 => k_is); (case k8 => ktr_room); (case k9 => exact BindsTo.of_eq rfl); (case kB => exact rfl); (case kD => decide +kernel); (case c2 => exact rfl); (case c3 => exact rfl); (case c4 => exact rfl); k_whole; (try dsimp only)))
section
theorem fresh2 : True := by
  w_top off
  first | walk1 | trivial
theorem fill3 : (fun (_ : OpenLaw) (_ : Params → Frag) => True) PySem.Challenge.rw_gb0003_01 hd.heap_39 := by
  k_fill
  trivial
theorem reps (k : Nat) (t : Tok) : IntsAre (List.replicate k [Value.int 0 t]).flatten (List.replicate k (0 : Int)) := by
  induction k with
  | zero => exact .nil
  | succ k ih =>
    rw [List.replicate_succ, List.replicate_succ, List.flatten_cons]
    exact .cons 0 t ih
theorem reps_len (k : Nat) (t : Tok) : (List.replicate k [Value.int 0 t]).flatten.length = k := by
  induction k with
  | zero => rfl
  | succ k ih => rw [List.replicate_succ, List.flatten_cons, List.length_append, ih]; simp; omega
section
variable {prog : Program} {w : World} {A : Around} {E : Value → Shared → Prop} {s : Shared} {h₀ : Heap} {L : Addr} {m : Str → Option Value} {news : List (Addr × Obj)} {l : Addr} {x : Int} {t u : Tok} {Q : Value → Shared → Prop}
theorem mulZ (F : Fr h₀ L s.heap m) (N : News h₀ L s.heap news) {n₀ : Nat} (hm : (l, listOf [Value.int 0 t].toArray n₀) ∈ news) (k : Nat) (hk : x = k) (hk2 : k ≤ 200)
    (h : ∀ D vs ns h', Fr h₀ L h' m → News h₀ L h' ((D, listOf vs.toArray 0) :: news) → (∀ p ∈ news, p.1 < D) → IntsAre vs ns → ns.length = k → Q (.ref D) { s with heap := h' }) :
    wpAny (model prog w) A (binaryOp .Mult (.ref l) (.int x u)) Q E s := by
  refine KMa.mul F N (PySem.IsL.isList (n := n₀) (N _ hm).1) (by omega) (by omega) (by simp; omega) rfl fun D h' F' N' l1 => h D _ _ h' F' N' l1 ?_ (List.length_replicate (n := k) (a := (0 : Int)))
  rw [hk, Int.toNat_natCast]
  exact reps k t
end
theorem News.perm9 {h₀ h : Heap} {L : Addr} {oth : List (Addr × Obj)} {q r : Array Value} {c d : Addr} {o u : Obj} (N : News h₀ L h (oth ++ T4 q r c d o u)) : News h₀ L h ((oth ++ [(37, tabObj q), (c, o)]) ++ [(30, tabObj r), (d, u)]) := fun x hx => N x (by
  simp only [List.mem_append, List.mem_cons, List.not_mem_nil, or_false] at hx ⊢
  rcases hx with (h | h | h) | h | h <;> simp [h])
local macro_rules | `(tactic| walk_at "binaryOp Mult ref int") => `(tactic| (k_here; k_dflt (refine' mulZ ?F ?N ?l _ ?hk ?hk2 ?_; (case F => k_asm); (case N => k_asm); (case l => k_mem); (case hk => assumption); (case hk2 => omega)); intro D' vs' ns' h' F' N' l1 i1 i2; (try k_lt l1); (try k_sweep)))
local macro_rules | `(tactic| walk_at "binaryOp RShift int int") => `(tactic| (refine rsh_by (by assumption) (by first | assumption | decide) ?_))
local macro_rules | `(tactic| walk_at "binaryOp LShift int int") => `(tactic| (refine lsh_by (by assumption) (by assumption) (by assumption) (by assumption) ?_))
local macro_rules | `(tactic| walk_at "binaryOp Mult int int") => `(tactic| (refine mul_by (by assumption) (by assumption) ?_))
local macro_rules | `(tactic| walk_at "binaryOp BitXor int int") => `(tactic| (refine xor_by (by assumption) ?_))
abbrev lgI (fI : Addr) (oF : Obj) (D Dz : Addr) (oZ : Obj) (cI : Addr) (oI : Obj) (cA : Addr) (oA : Obj) (cN : Addr) (oN : Obj) (q : Array Value) (c : Addr) (o : Obj) (r : Array Value) (d : Addr) (u : Obj) (vs : List Value) : List (Addr × Obj) :=
  [(fI, oF), (D, listOf vs.toArray 0), (Dz, oZ), (cI, oI), (cA, oA), (cN, oN), (37, tabObj q), (c, o), (30, tabObj r), (d, u)]
abbrev lgOf {g h : Heap} {L : Addr} {fI : Addr} {oF : Obj} {D Dz : Addr} {oZ : Obj} {cI : Addr} {oI : Obj} {cA : Addr} {oA : Obj} {cN : Addr} {oN : Obj} {q : Array Value} {c : Addr} {o : Obj} {r : Array Value} {d : Addr} {u : Obj} {vs : List Value}
    (_N : News g L h (lgI fI oF D Dz oZ cI oI cA oA cN oN q c o r d u vs)) : List Value → List (Addr × Obj) := lgI fI oF D Dz oZ cI oI cA oA cN oN q c o r d u
/-- what a call of the nested def does to its list -/
def ConI (w : World) (fI : Addr) (N : Nat) (LG : List Value → List (Addr × Obj)) (J : Nat) : Prop :=
  ∀ (j : Nat) (x lo hi : Int) (tx tl th : Tok) (vs : List Value) (ns : List Int) (p : Program) (loose : List Str) (mean : ExcName → Option Value) (mg mb : Str → Option Value) (dp un : Nat) (gd : Option (List Code)) (cn : Str) (cs : Scope) (a : Addr) (ccd : Value) (cl : List (Str × Addr)) (outer : List Env) (A₀ : Around) (base h₀ : Heap) (L : Addr)
    (m : Str → Option Value) (s : Shared) (Q E : Value → Shared → Prop),
    j < J → IntsAre vs ns → 0 ≤ lo → hi = lo + ((j : Int) + 1) → hi ≤ ns.length → ns.length ≤ 62 → 0 ≤ x → x < 2 ^ 62 → x < 2 ^ (N * (j + 1)) →
    Below A₀ base outer h₀ → Fr h₀ L s.heap m → (hd.heap_39 w.params).In h₀ → News h₀ L s.heap (LG vs) → Top p loose mean mg mb h₀ → cs.kind = .function → CodeHd h₀ 41 37 → CodeHd h₀ 34 30 → dp + (j + 2) < recursionLimit → un + 8 * (j + 2) < cLine →
    (∀ vs' h' tk', IntsAre vs' (splice ns lo.toNat (dg N (j + 1) x)) → Fr h₀ L h' m → News h₀ L h' (LG vs') → Q .none { s with heap := h', toks := tk' }) →
    wpAny (model PySem.Challenge.rw_gb0003_01.row.prog w) (ktrTop dp un gd cn cs L a ccd cl outer) (call (.ref fI) [.int x tx, .int lo tl, .int hi th]) Q E s
theorem con_int2digits (w : World) (a n : Int) (ta tn : Tok) (ha : 0 ≤ a) (ha2 : a < 2 ^ 62) (hn : 0 < n) (hn2 : n ≤ 62) :
    Con w 35 [.int a ta, .int n tn] 70 (fun _ => True) (OutL (figs a n)) := by
  unfold Con
  intro p loose mean mg mb dp un gd cn cs aa ccd cl outer A₀ base h₀ L m rest q r c d o u s Q E B F X N T hk C1 C2 hT hO hA hdp hun hret
  have N4 := t4_of N
  refine wpAny_call ?_
  k_dflt (refine' enter_cells (binds := [(Str.ofString "a", Value.int a ta), (Str.ofString "n", Value.int n tn)]) ?k1 ?k2 ?k3 ?k4 ?k5 ?kA ?kF ?kK ?k6 ?k7 ?k8 ?k9 ?kB ?kD ?_ ?c2 ?c3 ?c4; walk_at "mine enterC")
  intro g L' h₁ tk₁ cells kp FG F' N' Y' B' X' T' st l1 bk
  have fin := con_fin N hT hO kp bk hret
  clear N4 N hO kp bk hret F X T B hA
  replace C1 := C1.keeps st
  replace C2 := C2.keeps st
  (try k_lt l1); k_cells Y'; (try simp only [List.cons_append, List.nil_append] at N')
  have hbits := bits_le a ha (by omega : a < 2 ^ 62)
  have hnp := fun x : Int => noPy x n hn (by omega)
  obtain ⟨k, hk0, hk1, hk2, hkz, hk3⟩ := ndig_ex a n ha ha2 hn hn2
  (try dsimp only); (try k_fold)
  k_steps
  k_dflt (refine' nestDef_K ?d0 ?k0 ?a0 ?_; (case d0 => exact rfl); (case k0 => exact rfl); (case a0 => exact rfl))
  rename News _ _ _ _ => N1
  rename Fr _ _ _ _ => F1
  have N2 := News.perm9 (oth := [_, _, _, _, _]) N1
  clear N1
  rename_i oI0 oA0 oN dI dA dN Dz hx1 hl0 D vs0 ns0 hx2 iv ivl hD hx3 oA dA'
  k_dflt (refine' nestG F1 N2 T' C2 rfl hT.b rfl rfl ?hoth ?hself ?hcl ?_)
  case hoth =>
    have hn1 := hT.n1
    simp only [List.cons_append, List.nil_append]
    k_all
  case hself => intro e; rfl
  case hcl => exact rfl
  clear N2 F1
  intro fI d' u' r' ctv doc h2 tk2 F2 N2 ts' hu' lf hd' ld
  obtain ⟨uvs, ut, hu1, hu2⟩ := hu'
  simp only [List.cons_append, List.nil_append] at lf ld N2
  k_lt lf
  simp only [List.forall_mem_cons, List.not_mem_nil, false_implies, implies_true, and_true] at ld
  k_steps
  · rename News _ _ _ _ => N3
    rename Fr _ _ _ _ => F3
    rename_i oI dI'
    have hin : ∀ J, ConI w fI n.toNat (lgOf N3) J := by
      dsimp only [lgOf]
      clear F3 fin N3; try clear F2; try clear N2
      intro J
      induction J with
      | zero => 
        unfold ConI
        intros
        omega
      | succ J ih =>
        unfold ConI
        intro j x lo hi tx tl th vs ns pr loose mean mg mb dp un gd cn cs aa ccd cl outer A₀ base h₀ L m s Q E hj iv h0 hhi hns hns2 hx hx2 hx3 B F X N T hk C1 C2 hdp hun hret
        dsimp only [lgI] at N
        obtain ⟨p, k', sh, up, wv, low, f1, f2, f3, f4, f5, f6, f7, f8, f9, f10, f11, f12, f13, f14, f15, f16, f17, f18, f19⟩ := split_facts x lo hi n j hn hn2 h0 (by omega) hhi hx hx2 hx3
        refine wpAny_call ?_
        k_dflt (refine' code_nest (binds := [(Str.ofString "x", Value.int x tx), (Str.ofString "L", Value.int lo tl), (Str.ofString "R", Value.int hi th)]) ?k1 ?k2 ?k3 ?k4 ?k5 ?kA ?kF ?kK ?k6 ?k7 ?k8 ?k9 ?kB ?_ ?c2 ?c3 ?c4 ?c5; (case kA => exact rfl); (case kF => exact rfl); (case kK => assumption); (case k1 => k_asm); (case k2 => k_asm); (case k3 => k_asm); (case k4 => k_asm); (case k5 => k_asm); (case k6 => k_mem); (case k7 => exact codeRec_news (by k_asm) (by k_mem) (by assumption) (by assumption)); (case k8 => ktr_room); (case k9 => exact BindsTo.of_eq rfl); (case c5 => decide); (case kB => exact locs rfl); (case c2 => exact rfl); (case c3 => exact rfl); (case c4 => exact rfl); k_whole)
        intro g' L' h' FG' F' N' B' X' T'
        (try dsimp only); (try k_fold)
        k_steps
        · have hj0 : j = 0 := by omega
          subst hj0
          refine hret _ _ _ ?_ (by assumption) (by assumption)
          rw [dg_one n.toNat x hx (by simpa using hx3), ← splice_set ns lo.toNat x (by omega)]
          assumption
        · rename News _ _ _ _ => N5
          rename Fr _ _ _ _ => F5
          obtain ⟨p', rfl⟩ : ∃ p', p = p' + 1 := ⟨p - 1, by omega⟩
          obtain ⟨k'', rfl⟩ : ∃ k'', k' = k'' + 1 := ⟨k' - 1, by omega⟩
          have hdl := dg_len n.toNat (p' + 1) low
          have hul := dg_len n.toNat (k'' + 1) up
          have hsl := splice_len ns lo.toNat (dg n.toNat (p' + 1) low) (by omega)
          k_dflt (refine' ih p' low lo (lo + ((p' + 1 : Nat) : Int)) _ _ _ vs ns pr loose mean mg mb _ _ _ _ _ _ _ _ _ _ _ _ _ _ _ _ _ ?j1 iv h0 ?j2 ?j3 hns2 f13 f14 f15 ?j4 F5 ?j5 N5 ?j6 ?j7 ?j8 ?j9 ?j10 ?j11 ?_)
          case j1 => omega
          case j2 => omega
          case j3 => omega
          case j4 => k_asm
          case j5 => k_asm
          case j6 => k_asm
          case j7 => first | exact rfl | assumption
          case j8 => exact C1.keeps FG'.keep
          case j9 => exact C2.keeps FG'.keep
          case j10 => (simp only [depth_deeper]); omega
          case j11 => (simp only [units_deeper]); omega
          intro vs1 h1' tk1 iv1 F6 N6
          dsimp only [lgI] at N6
          (try dsimp only); (try k_fold)
          clear N5 F5
          k_steps
          rename News _ _ _ _ => N7
          rename Fr _ _ _ _ => F7
          k_dflt (refine' ih k'' up (lo + ((p' + 1 : Nat) : Int)) hi _ _ _ vs1 _ pr loose mean mg mb _ _ _ _ _ _ _ _ _ _ _ _ _ _ _ _ _ ?j1 iv1 ?j0 ?j2 ?j3 ?j12 f16 f17 f18 ?j4 F7 ?j5 N7 ?j6 ?j7 ?j8 ?j9 ?j10 ?j11 ?_)
          case j1 => omega
          case j0 => omega
          case j2 => omega
          case j3 => omega
          case j12 => omega
          case j4 => k_asm
          case j5 => k_asm
          case j6 => k_asm
          case j7 => first | exact rfl | assumption
          case j8 => exact C1.keeps FG'.keep
          case j9 => exact C2.keeps FG'.keep
          case j10 => (simp only [depth_deeper]); omega
          case j11 => (simp only [units_deeper]); omega
          intro vs2 h2' tk2' iv2 F8 N8
          dsimp only [lgI] at N8
          (try dsimp only); (try k_fold)
          clear N7 F7
          k_steps
          refine hret vs2 _ _ ?_ (by assumption) (by assumption)
          have e1 : (lo + ((p' + 1 : Nat) : Int)).toNat = lo.toNat + (dg n.toNat (p' + 1) low).length := by omega
          rw [e1, splice_splice _ _ _ _ (by omega), ← f19] at iv2
          exact iv2
    have hlen : ns0.length ≤ 62 := by omega
    obtain ⟨k1, rfl⟩ : ∃ k1, k = k1 + 1 := ⟨k - 1, by omega⟩
    k_dflt (refine' hin (k1 + 1) k1 a 0 ((ns0.length : Nat) : Int) _ _ _ vs0 ns0 p loose mean mg mb _ _ _ _ _ _ _ _ _ _ _ _ _ _ _ _ _ ?j1 iv ?j0 ?j2 ?j3 ?j12 ha ha2 hk2 ?j4 F3 ?j5 N3 ?j6 ?j7 ?j8 ?j9 ?j10 ?j11 ?_)
    case j1 => omega
    case j0 => omega
    case j2 => omega
    case j3 => omega
    case j12 => omega
    case j4 => k_asm
    case j5 => k_asm
    case j6 => k_asm
    case j7 => first | exact rfl | assumption
    case j8 => exact C1
    case j9 => exact C2
    case j10 => (simp only [depth_deeper]); omega
    case j11 => (simp only [units_deeper]); omega
    intro vs1 h1' tk1 iv1 F6 N6
    dsimp only [lgOf, lgI] at N6
    clear hin N3 F3
    (try dsimp only); (try k_fold)
    k_steps
    refine' Fin.one fin (by assumption) (News.five N6 (by k_mem) (by k_mem) (by k_mem) (by k_mem) (by k_mem)) ⟨hT.a, ts', hT.n1, ?n2⟩ ?nf ⟨_, _, _, rfl, rfl, ?out⟩
    case n2 => have := hT.n2; omega
    case nf => intro _ h; cases h
    case out =>
      rw [Int.toNat_zero, splice_all _ _ (by rw [dg_len]; omega)] at iv1
      unfold figs
      rw [hk0]
      exact iv1
  · have hkk : k = 0 := hkz (by assumption)
    rename News _ _ _ _ => N6
    refine' Fin.one fin (by assumption) (News.five N6 (by k_mem) (by k_mem) (by k_mem) (by k_mem) (by k_mem)) ⟨hT.a, ts', hT.n1, ?n2⟩ ?nf ⟨_, _, _, rfl, rfl, ?out⟩
    case n2 => have := hT.n2; omega
    case nf => intro _ h; cases h
    case out =>
      unfold figs
      rw [hk0, hkk]
      have : ns0 = [] := List.length_eq_zero_iff.mp (by omega)
      rw [this] at iv
      exact iv
end
section
theorem fresh3 : True := by
  w_top off
  first | walk1 | trivial
theorem fill4 : (fun (_ : OpenLaw) (_ : Params → Frag) => True) PySem.Challenge.rw_gb0003_01 hd.heap_39 := by
  k_fill
  trivial
local macro_rules | `(tactic| walk_at "binaryOp RShift int int") => `(tactic| (refine rsh_by (by assumption) (by first | assumption | decide) ?_))
local macro_rules | `(tactic| walk_at "binaryOp LShift int int") => `(tactic| (refine lsh_by (by assumption) (by assumption) (by assumption) (by assumption) ?_))
local macro_rules | `(tactic| walk_at "binaryOp Mult int int") => `(tactic| (refine mul_by (by assumption) (by assumption) ?_))
theorem News.perm37 {h₀ h : Heap} {L : Addr} {oth : List (Addr × Obj)} {q r : Array Value} {c d : Addr} {o u : Obj} (N : News h₀ L h (oth ++ T4 q r c d o u)) : News h₀ L h ((oth ++ [(30, tabObj r), (d, u)]) ++ [(37, tabObj q), (c, o)]) := fun x hx => N x (by
  simp only [List.mem_append, List.mem_cons, List.not_mem_nil, or_false] at hx ⊢
  rcases hx with (h | h | h) | h | h <;> simp [h])
abbrev lgD (fI : Addr) (oF : Obj) (cI : Addr) (oI : Obj) (cN : Addr) (oN : Obj) (cD : Addr) (oD : Obj) (r : Array Value) (d : Addr) (u : Obj) (q : Array Value) (c : Addr) (o : Obj) : List (Addr × Obj) :=
  [(fI, oF), (cI, oI), (cN, oN), (cD, oD), (30, tabObj r), (d, u), (37, tabObj q), (c, o)]
abbrev lgDOf {g h : Heap} {L : Addr} {fI : Addr} {oF : Obj} {cI : Addr} {oI : Obj} {cN : Addr} {oN : Obj} {cD : Addr} {oD : Obj} {r : Array Value} {d : Addr} {u : Obj} {q : Array Value} {c : Addr} {o : Obj}
    (_N : News g L h (lgD fI oF cI oI cN oN cD oD r d u q c o)) : List (Addr × Obj) := lgD fI oF cI oI cN oN cD oD r d u q c o
/-- what a call of the nested def tells -/
def ConD (w : World) (fI : Addr) (N : Nat) (l : Addr) (vs : List Value) (ns : List Int) (LG : List (Addr × Obj)) (J : Nat) : Prop :=
  ∀ (k : Nat) (lo hi : Int) (tl th : Tok) (p : Program) (loose : List Str) (mean : ExcName → Option Value) (mg mb : Str → Option Value) (dp un : Nat) (gd : Option (List Code)) (cn : Str) (cs : Scope) (a : Addr) (ccd : Value) (cl : List (Str × Addr)) (outer : List Env) (A₀ : Around) (base h₀ : Heap) (L : Addr)
    (m : Str → Option Value) (s : Shared) (Q E : Value → Shared → Prop),
    k < J → 1 ≤ k → 0 ≤ lo → hi = lo + (k : Int) → hi ≤ ns.length → h₀.IsList l vs.toArray →
    Below A₀ base outer h₀ → Fr h₀ L s.heap m → (hd.heap_39 w.params).In h₀ → News h₀ L s.heap LG → Top p loose mean mg mb h₀ → cs.kind = .function → CodeHd h₀ 41 37 → CodeHd h₀ 34 30 → dp + (k + 2) < recursionLimit → un + 8 * (k + 2) < cLine →
    (∀ t h' tk', Fr h₀ L h' m → News h₀ L h' LG → Q (.int (valS N ns lo.toNat k) t) { s with heap := h', toks := tk' }) →
    wpAny (model PySem.Challenge.rw_gb0003_01.row.prog w) (ktrTop dp un gd cn cs L a ccd cl outer) (call (.ref fI) [.int lo tl, .int hi th]) Q E s
theorem con_digits2int (w : World) (l : Addr) (vs : List Value) (ns : List Int) (n₀ : Nat) (n : Int) (tn : Tok) (iv : IntsAre vs ns) (hlen : ns.length ≤ 62) (hn : 0 < n) (hn2 : n ≤ 62) (hnn : ∀ d ∈ ns, 0 ≤ d) (hb : valS n.toNat ns 0 ns.length < 2 ^ 62) :
    Con w 42 [.ref l, .int n tn] 70 (fun rest => (l, listOf vs.toArray n₀) ∈ rest) (OutI (valL n.toNat ns)) := by
  unfold Con
  intro p loose mean mg mb dp un gd cn cs aa ccd cl outer A₀ base h₀ L m rest q r c d o u s Q E B F X N T hk C1 C2 hT hO hA hdp hun hret
  have hoff := hO.all _ hA
  have hl0 := (N _ (List.mem_append_left _ hA)).1
  have N4 := t4_of N
  refine wpAny_call ?_
  k_dflt (refine' enter_cells (binds := [(Str.ofString "digits", Value.ref l), (Str.ofString "n", Value.int n tn)]) ?k1 ?k2 ?k3 ?k4 ?k5 ?kA ?kF ?kK ?k6 ?k7 ?k8 ?k9 ?kB ?kD ?_ ?c2 ?c3 ?c4; walk_at "mine enterC")
  intro g L' h₁ tk₁ cells kp FG F' N' Y' B' X' T' st l1 bk
  have hlg : g.IsList l vs.toArray := PySem.IsL.isList (kp l _ hl0 (by
    obtain ⟨a1, a2, a3, a4⟩ := hoff
    simp only [List.map_cons, List.map_nil, List.mem_cons, List.not_mem_nil, or_false, not_or]
    exact ⟨a1, a2, a3, a4⟩))
  have fin := con_fin N hT hO kp bk hret
  clear N4 N hO kp bk hret F X T B hA hl0 hoff
  replace C1 := C1.keeps st
  replace C2 := C2.keeps st
  (try k_lt l1); k_cells Y'; (try simp only [List.cons_append, List.nil_append] at N')
  (try dsimp only); (try k_fold)
  k_steps
  k_dflt (refine' nestDef_K ?d0 ?k0 ?a0 ?_; (case d0 => exact rfl); (case k0 => exact rfl); (case a0 => exact rfl))
  rename News _ _ _ _ => N1
  rename Fr _ _ _ _ => F1
  rename_i oI0 oN oD dI dN dD
  have N2 := News.perm37 (oth := [_, _, _]) N1
  clear N1
  k_dflt (refine' nestG F1 N2 T' C1 rfl hT.a rfl rfl ?hoth ?hself ?hcl ?_)
  case hoth =>
    have hn2 := hT.n2
    simp only [List.cons_append, List.nil_append]
    k_all
  case hself => intro e; rfl
  case hcl => exact rfl
  clear N2 F1
  intro fI c' o' q' ctv doc h2 tk2 F2 N2 ts' hu' lf hd' ld
  obtain ⟨uvs, ut, hu1, hu2⟩ := hu'
  simp only [List.cons_append, List.nil_append] at lf ld N2
  k_lt lf
  simp only [List.forall_mem_cons, List.not_mem_nil, false_implies, implies_true, and_true] at ld
  have hnl := IntsAre.length iv
  k_steps
  · rename News _ _ _ _ => N3
    rename Fr _ _ _ _ => F3
    rename_i oI dI' _
    have hin : ∀ J, ConD w fI n.toNat l vs ns (lgDOf N3) J := by
      dsimp only [lgDOf]
      clear F3 fin N3 hlg; try clear F2; try clear N2
      intro J
      induction J with
      | zero => 
        unfold ConD
        intros
        omega
      | succ J ih =>
        unfold ConD
        intro k lo hi tl th pr loose mean mg mb dp un gd cn cs aa ccd cl outer A₀ base h₀ L m s Q E hj hk1 h0 hhi hns hl B F X N T hk C1 C2 hdp hun hret
        dsimp only [lgD] at N
        obtain ⟨p, k', sh, up, wv, low, f1, f2, f3, f4, f5, f6, f7, f8, -⟩ := split_facts 0 lo hi n (k - 1) hn hn2 h0 (by omega) (by omega) (by omega) (by omega) (Int.pow_pos (by decide))
        have hsh : sh.toNat = n.toNat * p := by
          have e1 : lo + (p : Int) - lo = p := by omega
          have e2 : ((n.toNat * p : Nat) : Int) = sh := by
            rw [← f5, e1, Int.natCast_mul, Int.toNat_of_nonneg (by omega), Int.mul_comm]
          omega
        have hlo : (lo + (p : Int)).toNat = lo.toNat + p := by omega
        obtain ⟨j1, j2⟩ := join_facts n.toNat ns hnn hb lo.toNat p k' (by omega)
        rw [← hlo] at j1 j2
        rw [← hsh] at j2
        obtain ⟨W, hW⟩ : ∃ W, valS n.toNat ns (lo + (p : Int)).toNat k' * 2 ^ sh.toNat = W := ⟨_, rfl⟩
        refine wpAny_call ?_
        k_dflt (refine' code_nest (binds := [(Str.ofString "L", Value.int lo tl), (Str.ofString "R", Value.int hi th)]) ?k1 ?k2 ?k3 ?k4 ?k5 ?kA ?kF ?kK ?k6 ?k7 ?k8 ?k9 ?kB ?_ ?c2 ?c3 ?c4 ?c5; (case kA => exact rfl); (case kF => exact rfl); (case kK => assumption); (case k1 => k_asm); (case k2 => k_asm); (case k3 => k_asm); (case k4 => k_asm); (case k5 => k_asm); (case k6 => k_mem); (case k7 => exact codeRec_news (by k_asm) (by k_mem) (by assumption) (by assumption)); (case k8 => ktr_room); (case k9 => exact BindsTo.of_eq rfl); (case c5 => decide); (case kB => exact locs rfl); (case c2 => exact rfl); (case c3 => exact rfl); (case c4 => exact rfl); k_whole)
        intro g' L' h' FG' F' N' B' X' T'
        have hl' : g'.IsList l vs.toArray := stays_list FG'.keep hl
        (try dsimp only); (try k_fold)
        k_steps
        · have hk0 : k = 1 := by omega
          subst hk0
          have e1 : valS n.toNat ns lo.toNat 1 = ns.getD lo.toNat 0 := by simp [valS]
          rw [e1] at hret
          exact hret _ _ _ (by assumption) (by assumption)
        · rename News _ _ _ _ => N5
          rename Fr _ _ _ _ => F5
          obtain ⟨hq1, hq2, hq3⟩ : 1 ≤ p ∧ 1 ≤ k' ∧ p + k' = k := by omega
          clear f1 f2 f3
          k_dflt (refine' ih k' (lo + (p : Int)) hi _ _ pr loose mean mg mb _ _ _ _ _ _ _ _ _ _ _ _ _ _ _ _ _ ?j1 ?j12 ?j0 ?j2 ?j3 hl' ?j4 F5 ?j5 N5 ?j6 ?j7 ?j8 ?j9 ?j10 ?j11 ?_)
          case j1 => omega
          case j12 => omega
          case j0 => omega
          case j2 => omega
          case j3 => omega
          case j4 => k_asm
          case j5 => k_asm
          case j6 => k_asm
          case j7 => first | exact rfl | assumption
          case j8 => exact C1.keeps FG'.keep
          case j9 => exact C2.keeps FG'.keep
          case j10 => (simp only [depth_deeper]); omega
          case j11 => (simp only [units_deeper]); omega
          intro t1 h1' tk1 F6 N6
          dsimp only [lgD] at N6
          (try dsimp only); (try k_fold)
          clear N5 F5
          k_steps
          rename News _ _ _ _ => N7
          rename Fr _ _ _ _ => F7
          k_dflt (refine' ih p lo (lo + (p : Int)) _ _ pr loose mean mg mb _ _ _ _ _ _ _ _ _ _ _ _ _ _ _ _ _ ?j1 ?j12 ?j0 ?j2 ?j3 hl' ?j4 F7 ?j5 N7 ?j6 ?j7 ?j8 ?j9 ?j10 ?j11 ?_)
          case j1 => omega
          case j12 => omega
          case j0 => omega
          case j2 => omega
          case j3 => omega
          case j4 => k_asm
          case j5 => k_asm
          case j6 => k_asm
          case j7 => first | exact rfl | assumption
          case j8 => exact C1.keeps FG'.keep
          case j9 => exact C2.keeps FG'.keep
          case j10 => (simp only [depth_deeper]); omega
          case j11 => (simp only [units_deeper]); omega
          intro t2 h2' tk2' F8 N8
          dsimp only [lgD] at N8
          (try dsimp only); (try k_fold)
          clear N7 F7
          k_steps
          have e3 : p + k' = k := by omega
          rw [← hW] at *
          rw [j2, e3]
          exact hret _ _ _ (by assumption) (by assumption)
    k_dflt (refine' hin (ns.length + 1) ns.length 0 ((ns.length : Nat) : Int) _ _ p loose mean mg mb _ _ _ _ _ _ _ _ _ _ _ _ _ _ _ _ _ ?j1 ?j12 ?j0 ?j2 ?j3 hlg ?j4 F3 ?j5 N3 ?j6 ?j7 ?j8 ?j9 ?j10 ?j11 ?_)
    case j1 => omega
    case j12 => omega
    case j0 => omega
    case j2 => omega
    case j3 => omega
    case j4 => k_asm
    case j5 => k_asm
    case j6 => k_asm
    case j7 => first | exact rfl | assumption
    case j8 => exact C1
    case j9 => exact C2
    case j10 => (simp only [depth_deeper]); omega
    case j11 => (simp only [units_deeper]); omega
    intro t1 h1' tk1 F6 N6
    dsimp only [lgDOf, lgD] at N6
    clear hin N3 F3
    (try dsimp only); (try k_fold)
    k_steps
    refine' Fin.none fin (by assumption) (News.four N6 (by k_mem) (by k_mem) (by k_mem) (by k_mem)) ⟨ts', hT.b, ?n1, hT.n2⟩ ⟨rfl, _, ?out⟩
    case n1 => have := hT.n1; omega
    case out => rw [← valS_all]; rfl
  · have hkk : ns = [] := List.length_eq_zero_iff.mp (by omega)
    rename News _ _ _ _ => N6
    refine' Fin.none fin (by assumption) (News.four N6 (by k_mem) (by k_mem) (by k_mem) (by k_mem)) ⟨ts', hT.b, ?n1, hT.n2⟩ ⟨rfl, _, ?out⟩
    case n1 => have := hT.n1; omega
    case out => rw [hkk]; rfl
end
section
/-- a ledger parted into what is ahead of the tables and the tables -/
inductive Spl : List (Addr × Obj) → List (Addr × Obj) → Array Value → Array Value → Addr → Addr → Obj → Obj → Prop
  | stop {q r : Array Value} {c d : Addr} {o u : Obj} : Spl (T4 q r c d o u) [] q r c d o u
  | more {x : Addr × Obj} {l rest : List (Addr × Obj)} {q r : Array Value} {c d : Addr} {o u : Obj} : Spl l rest q r c d o u → Spl (x :: l) (x :: rest) q r c d o u
theorem Spl.eq {l rest : List (Addr × Obj)} {q r : Array Value} {c d : Addr} {o u : Obj} (h : Spl l rest q r c d o u) : l = rest ++ T4 q r c d o u := by
  induction h with
  | stop => rfl
  | more _ ih => rw [ih]; rfl
/-- two addresses are not the same (kept from omega's eyes) -/
structure Ap (a b : Nat) : Prop where
  ne : a ≠ b
structure Apart (l : Nat) (rest : List (Addr × Obj)) : Prop where
  all : ∀ y ∈ rest, @Ne Nat l y.1
theorem Apart.ne {l y : Nat} {o : Obj} {rest : List (Addr × Obj)} (h : Apart l rest) (m : ((y : Addr), o) ∈ rest) : @Ne Nat l y := h.all _ m
theorem Off.n37 {a : Nat} {o : Obj} {rest : List (Addr × Obj)} {c d : Addr} (h : Off rest c d) (m : ((a : Addr), o) ∈ rest) : @Ne Nat a 37 := (h.all _ m).1
theorem Off.n30 {a : Nat} {o : Obj} {rest : List (Addr × Obj)} {c d : Addr} (h : Off rest c d) (m : ((a : Addr), o) ∈ rest) : @Ne Nat a 30 := (h.all _ m).2.1
theorem Off.nc {a : Nat} {o : Obj} {rest : List (Addr × Obj)} {c d : Addr} (h : Off rest c d) (m : ((a : Addr), o) ∈ rest) : @Ne Nat a c := (h.all _ m).2.2.1
theorem Off.nd {a : Nat} {o : Obj} {rest : List (Addr × Obj)} {c d : Addr} (h : Off rest c d) (m : ((a : Addr), o) ∈ rest) : @Ne Nat a d := (h.all _ m).2.2.2
theorem noF_cell {o : Obj} {v : Option Value} (h : o.data = .cell v) : ObjF o := fun vs e => by
  rw [h] at e; cases e
section
variable {w : World} {f : Addr} {args : List Value} {dn : Nat} {Arg : List (Addr × Obj) → Prop} {p : Program} {loose : List Str} {mean : ExcName → Option Value} {mg mb : Str → Option Value} {dp un : Nat} {gd : Option (List Code)} {cn : Str} {cs : Scope} {a : Addr} {ccd : Value} {cl : List (Str × Addr)} {outer : List Env} {A₀ : Around} {base h₀ : Heap} {L : Addr}
  {m : Str → Option Value} {led rest : List (Addr × Obj)} {q r : Array Value} {c d : Addr} {o u : Obj} {s : Shared} {Q E : Value → Shared → Prop}
theorem Con.useI {n : Int} (C : Con w f args dn Arg (OutI n)) (B : Below A₀ base outer h₀) (F : Fr h₀ L s.heap m) (X : (hd.heap_39 w.params).In h₀) (N : News h₀ L s.heap led) (S : Spl led rest q r c d o u) (T : Top p loose mean mg mb h₀) (hk : cs.kind = .function)
    (C1 : CodeHd h₀ 41 37) (C2 : CodeHd h₀ 34 30) (tab : Tab q r c d o u) (nf : NoF rest) (arg : Arg rest) (hdp : dp + dn < recursionLimit) (hun : un + 8 * dn < cLine)
    (ret : ∀ t q' r' c' d' o' u' h' tk', Fr h₀ L h' m → News h₀ L h' (rest ++ T4 q' r' c' d' o' u') → Tab q' r' c' d' o' u' → Off rest c' d' → Q (.int n t) { s with heap := h', toks := tk' }) :
    wpAny (model PySem.Challenge.rw_gb0003_01.row.prog w) (ktrTop dp un gd cn cs L a ccd cl outer) (call (.ref f) args) Q E s := by
  refine C p loose mean mg mb dp un gd cn cs a ccd cl outer A₀ base h₀ L m rest q r c d o u s Q E B F X (S.eq ▸ N) T hk C1 C2 tab (off_of (S.eq ▸ N) tab nf) arg hdp hun ?_
  rintro v new q' r' c' d' o' u' h' tk' F' N' tab' off' ap' ⟨rfl, t, rfl⟩
  exact ret t q' r' c' d' o' u' h' tk' F' N' tab' off'
theorem Con.useL {ns : List Int} (C : Con w f args dn Arg (OutL ns)) (B : Below A₀ base outer h₀) (F : Fr h₀ L s.heap m) (X : (hd.heap_39 w.params).In h₀) (N : News h₀ L s.heap led) (S : Spl led rest q r c d o u) (T : Top p loose mean mg mb h₀) (hk : cs.kind = .function)
    (C1 : CodeHd h₀ 41 37) (C2 : CodeHd h₀ 34 30) (tab : Tab q r c d o u) (nf : NoF rest) (arg : Arg rest) (hdp : dp + dn < recursionLimit) (hun : un + 8 * dn < cLine)
    (ret : ∀ l vs n₀ q' r' c' d' o' u' h' tk', Fr h₀ L h' m → News h₀ L h' ((l, listOf vs.toArray n₀) :: (rest ++ T4 q' r' c' d' o' u')) → Tab q' r' c' d' o' u' → Off ((l, listOf vs.toArray n₀) :: rest) c' d' → Apart l rest → IntsAre vs ns → Q (.ref l) { s with heap := h', toks := tk' }) :
    wpAny (model PySem.Challenge.rw_gb0003_01.row.prog w) (ktrTop dp un gd cn cs L a ccd cl outer) (call (.ref f) args) Q E s := by
  refine C p loose mean mg mb dp un gd cn cs a ccd cl outer A₀ base h₀ L m rest q r c d o u s Q E B F X (S.eq ▸ N) T hk C1 C2 tab (off_of (S.eq ▸ N) tab nf) arg hdp hun ?_
  rintro v new q' r' c' d' o' u' h' tk' F' N' tab' off' ap' ⟨l, vs, n₀, rfl, rfl, iv⟩
  exact ret l vs n₀ q' r' c' d' o' u' h' tk' F' N' tab' off' (.mk (ap' _ (.head _))) iv
theorem Con.use2 {x y : Int} (C : Con w f args dn Arg (Out2 x y)) (B : Below A₀ base outer h₀) (F : Fr h₀ L s.heap m) (X : (hd.heap_39 w.params).In h₀) (N : News h₀ L s.heap led) (S : Spl led rest q r c d o u) (T : Top p loose mean mg mb h₀) (hk : cs.kind = .function)
    (C1 : CodeHd h₀ 41 37) (C2 : CodeHd h₀ 34 30) (tab : Tab q r c d o u) (nf : NoF rest) (arg : Arg rest) (hdp : dp + dn < recursionLimit) (hun : un + 8 * dn < cLine)
    (ret : ∀ l t1 t2 q' r' c' d' o' u' h' tk', Fr h₀ L h' m → News h₀ L h' ((l, { cls := .type "tuple", data := .seq #[.int x t1, .int y t2] }) :: (rest ++ T4 q' r' c' d' o' u')) → Tab q' r' c' d' o' u' → Off ((l, { cls := .type "tuple", data := .seq #[.int x t1, .int y t2] }) :: rest) c' d' → Apart l rest → Q (.ref l) { s with heap := h', toks := tk' }) :
    wpAny (model PySem.Challenge.rw_gb0003_01.row.prog w) (ktrTop dp un gd cn cs L a ccd cl outer) (call (.ref f) args) Q E s := by
  refine C p loose mean mg mb dp un gd cn cs a ccd cl outer A₀ base h₀ L m rest q r c d o u s Q E B F X (S.eq ▸ N) T hk C1 C2 tab (off_of (S.eq ▸ N) tab nf) arg hdp hun ?_
  rintro v new q' r' c' d' o' u' h' tk' F' N' tab' off' ap' ⟨l, t1, t2, rfl, rfl⟩
  exact ret l t1 t2 q' r' c' d' o' u' h' tk' F' N' tab' off' (.mk (ap' _ (.head _)))
theorem Con.use2o {x y : Int} (C : Con w f args dn Arg (Out2 x y)) (B : Below A₀ base outer h₀) (F : Fr h₀ L s.heap m) (X : (hd.heap_39 w.params).In h₀) (N : News h₀ L s.heap led) (S : Spl led rest q r c d o u) (T : Top p loose mean mg mb h₀) (hk : cs.kind = .function)
    (C1 : CodeHd h₀ 41 37) (C2 : CodeHd h₀ 34 30) (tab : Tab q r c d o u) (off : Off rest c d) (arg : Arg rest) (hdp : dp + dn < recursionLimit) (hun : un + 8 * dn < cLine)
    (ret : ∀ l t1 t2 q' r' c' d' o' u' h' tk', Fr h₀ L h' m → News h₀ L h' ((l, { cls := .type "tuple", data := .seq #[.int x t1, .int y t2] }) :: (rest ++ T4 q' r' c' d' o' u')) → Tab q' r' c' d' o' u' → Off ((l, { cls := .type "tuple", data := .seq #[.int x t1, .int y t2] }) :: rest) c' d' → Apart l rest → Q (.ref l) { s with heap := h', toks := tk' }) :
    wpAny (model PySem.Challenge.rw_gb0003_01.row.prog w) (ktrTop dp un gd cn cs L a ccd cl outer) (call (.ref f) args) Q E s := by
  refine C p loose mean mg mb dp un gd cn cs a ccd cl outer A₀ base h₀ L m rest q r c d o u s Q E B F X (S.eq ▸ N) T hk C1 C2 tab off arg hdp hun ?_
  rintro v new q' r' c' d' o' u' h' tk' F' N' tab' off' ap' ⟨l, t1, t2, rfl, rfl⟩
  exact ret l t1 t2 q' r' c' d' o' u' h' tk' F' N' tab' off' (.mk (ap' _ (.head _)))
end
end
section
/-- where a turn of a loop over the iterator I ends -/
def TurnEnd (h₀ : Heap) (L : Addr) (I : Addr) (it : Obj) (J : (Str → Option Value) → List (Addr × Obj) → Prop) (s₁ s₂ : Shared) : Prop :=
  ∃ h' tk m' news', s₂ = { s₁ with heap := h', toks := tk } ∧ Fr h₀ L h' m' ∧ News h₀ L h' ((I, it) :: news') ∧ (∀ x ∈ news', @Ne Nat x.1 I) ∧ J m' news'
def TurnPost (h₀ : Heap) (L : Addr) (I : Addr) (it : Obj) (J : (Str → Option Value) → List (Addr × Obj) → Prop) (s₁ : Shared) (Q : Flow → Shared → Prop) (f : Flow) (s₂ : Shared) : Prop :=
  match f with
  | .ret v => Q (.ret v) s₂
  | .brk => Q .next s₂
  | _ => TurnEnd h₀ L I it J s₁ s₂
theorem TurnEnd.intro {h₀ h' : Heap} {L I : Addr} {it : Obj} {J : (Str → Option Value) → List (Addr × Obj) → Prop} {s₁ : Shared} {m' : Str → Option Value} {news' : List (Addr × Obj)} {tk : Nat}
    (F : Fr h₀ L h' m') (N : News h₀ L h' ((I, it) :: news')) (hn : ∀ x ∈ news', @Ne Nat x.1 I) (hJ : J m' news') : TurnEnd h₀ L I it J s₁ { s₁ with heap := h', toks := tk } := ⟨h', tk, m', news', rfl, F, N, hn, hJ⟩
section
variable {prog : Program} {w : World} {A : Around} {E : Value → Shared → Prop} {s : Shared} {env : Env} {h₀ : Heap} {x : Str} {body : List Stmt} {Q : Flow → Shared → Prop}
theorem loop_at {I : Addr} {it₀ : Obj} {n : Nat} {P : Nat → Value → Prop} {St : Nat → Heap → Prop} {keep news : List (Addr × Obj)} {m₀ : Str → Option Value}
    (J : Nat → (Str → Option Value) → List (Addr × Obj) → Prop) (W : Walks prog w A I (I :: keep.map (·.1)) [I] n P St) (st : St 0 s.heap)
    (F : Fr h₀ env.locals s.heap m₀) (N : News h₀ env.locals s.heap ((I, it₀) :: news)) (hoff : ∀ p ∈ news, @Ne Nat p.1 I) (hk : ∀ i m' n', J i m' n' → ∀ p ∈ keep, p ∈ n') (hJ : J 0 m₀ news)
    (itF : ∀ i h, St i h → ∃ it, h.get? I = some it ∧ ObjF it)
    (turn : ∀ i v m₁ news₁ h tk it, i < n → P i v → J i m₁ news₁ → (∀ p ∈ news₁, @Ne Nat p.1 I) → ObjF it → Fr h₀ env.locals h (fun y => if y = x then some v else m₁ y) → News h₀ env.locals h ((I, it) :: news₁) →
      wpAny (model prog w) A (execs body env) (TurnPost h₀ env.locals I it (J (i + 1)) { s with heap := h, toks := tk } Q) E { s with heap := h, toks := tk })
    (done : ∀ h tk m' news', J n m' news' → Fr h₀ env.locals h m' → News h₀ env.locals h news' → Q .next { s with heap := h, toks := tk }) :
    LoopAtV prog w A h₀ env x body Q E (.ref I) s := by
  have hIx := N _ (List.mem_cons_self ..)
  have hkn := hk 0 m₀ news hJ
  refine ⟨I, _, _, n, _, _, m₀, news, J, rfl, W, ?_, ?_, ?_, st, F, (fun p hp => N p (List.mem_cons_of_mem _ hp)), hJ, ?_, ?_⟩
  · intro hm
    rcases List.mem_cons.mp hm with e | hm
    · exact hIx.2.1 e.symm
    · obtain ⟨p, hp, e⟩ := List.mem_map.mp hm
      exact (N p (List.mem_cons_of_mem _ (hkn p hp))).2.1 e
  · intro b hb
    rw [List.mem_singleton.mp hb]
    exact hIx.2.2
  · intro p hp hI
    exact hoff p hp (List.mem_singleton.mp hI)
  · rintro i v m₁ news₁ s₁ own ⟨hh', tk', rfl⟩ hin hP hJ₁ hofs hown hget hall hst F₁ N₁
    obtain ⟨it, hit, hif⟩ := itF _ _ hst
    have hmemI := hall I (List.mem_cons_self ..) hIx.2.2 _ hit
    have hoff₁ : ∀ p ∈ news₁, @Ne Nat p.1 I := fun p hp e => hofs p hp (by rw [show p.1 = I from e]; exact List.mem_cons_self ..)
    have N₂ : News h₀ env.locals hh' ((I, it) :: news₁) := fun p hp => by
      rcases List.mem_cons.mp hp with rfl | hp
      · exact N₁ _ (List.mem_append_left _ hmemI)
      · exact N₁ _ (List.mem_append_right _ hp)
    have hkn₁ := hk i m₁ news₁ hJ₁
    refine wpAny_mono (turn i v m₁ news₁ hh' tk' it hin hP hJ₁ hoff₁ hif F₁ N₂) (fun f s₂ p => ?_) fun _ _ e => e
    have fin : TurnEnd h₀ env.locals I it (J (i + 1)) { s with heap := hh', toks := tk' } s₂ → LoopStepU h₀ env.locals [I] own (J (i + 1)) { s with heap := hh', toks := tk' } .next s₂ := by
      rintro ⟨h', tk, m', news', e, F', N', ho, hJ'⟩
      refine ⟨rfl, h', tk, m', news', e, F', fun p hp => ?_, fun p hp hI => ho p hp (List.mem_singleton.mp hI), hJ'⟩
      rcases List.mem_append.mp hp with hp | hp
      · have h2 : hh'.get? p.1 = some p.2 := hget p hp
        rcases List.mem_cons.mp (hown p hp) with h1 | h1
        · have h3 : p = (I, it) := by
            rw [h1, hit] at h2
            exact Prod.ext h1 (Option.some.inj h2).symm
          rw [h3]; exact N' _ (List.mem_cons_self ..)
        · obtain ⟨y, hy, e1⟩ := List.mem_map.mp h1
          have h3 : p = y := by
            rw [← e1, (N₁ _ (List.mem_append_right _ (hkn₁ y hy))).1] at h2
            exact Prod.ext e1.symm (Option.some.inj h2).symm
          rw [h3]; exact N' _ (List.mem_cons_of_mem _ (hk _ _ _ hJ' y hy))
      · exact N' _ (List.mem_cons_of_mem _ hp)
    cases f with
    | ret v => exact .ret p
    | brk => exact .brk p
    | next => exact .next (fin p)
    | cont => exact .cont (fin p)
  · rintro h' tk m' news' F' N' _ hJ'
    exact done h' tk m' news' hJ' F' N'
theorem objF_rev {o : Obj} {l : Addr} {i : Int} (hc : o.cls = .type "list_reverseiterator") (hd : o.data = .fields #[.ref l, rawInt i]) : ObjF o := fun vs e => by
  rw [hd] at e
  cases e
  refine ⟨by rw [hc]; nofun, fun q t h => ?_⟩
  cases h
theorem objF_listIter {o : Obj} {l : Addr} {i : Nat} (hc : o.cls = .type "list_iterator") (hd : o.data = .fields #[.ref l, .int i 0]) : ObjF o := fun vs e => by
  rw [hd] at e
  cases e
  refine ⟨by rw [hc]; nofun, fun q t h => ?_⟩
  cases h
/-- a loop over a made list, from its last item to its first -/
theorem iter_rev {l I : Addr} {vs : List Value} {n₀ : Nat} {news : List (Addr × Obj)} {m₀ : Str → Option Value} (J : Nat → (Str → Option Value) → List (Addr × Obj) → Prop)
    (hh : A.handled = none) (F : Fr h₀ env.locals s.heap m₀) (N : News h₀ env.locals s.heap ((I, revObj l ((vs.length : Int) - 1)) :: news)) (hoff : ∀ p ∈ news, @Ne Nat p.1 I) (hk : ∀ i m' n', J i m' n' → (l, listOf vs.toArray n₀) ∈ n') (hJ : J 0 m₀ news)
    (turn : ∀ i v m₁ news₁ h tk it, i < vs.length → vs[vs.length - 1 - i]? = some v → J i m₁ news₁ → (∀ p ∈ news₁, @Ne Nat p.1 I) → ObjF it → Fr h₀ env.locals h (fun y => if y = x then some v else m₁ y) → News h₀ env.locals h ((I, it) :: news₁) →
      wpAny (model prog w) A (execs body env) (TurnPost h₀ env.locals I it (J (i + 1)) { s with heap := h, toks := tk } Q) E { s with heap := h, toks := tk })
    (done : ∀ h tk m' news', J vs.length m' news' → Fr h₀ env.locals h m' → News h₀ env.locals h news' → Q .next { s with heap := h, toks := tk }) :
    wpAny (model prog w) A (pyIter (.ref I)) (fun it s₂ => LoopAtV prog w A h₀ env x body Q E it s₂) E s := by
  have hIx := N _ (List.mem_cons_self ..)
  have hm := hk 0 m₀ news hJ
  have hl : s.heap.IsList l vs.toArray := PySem.IsL.isList (N _ (List.mem_cons_of_mem _ hm)).1
  have hit : s.heap.IsRevIter I l ((vs.length : Int) - 1) := ⟨_, hIx.1, rfl, rfl⟩
  refine wpAny_pyIter_revIter hit ?_
  have hne : l ≠ I := hoff _ hm
  have W := Walks.listRev (prog := prog) (w := w) hh I l hne vs.toArray
  have hlen : vs.toArray.size = vs.length := by simp
  rw [hlen] at W
  refine loop_at (keep := [(l, listOf vs.toArray n₀)]) J W ⟨Nat.zero_le _, ?_, hl⟩ F N hoff (fun i m' n' h p hp => by rw [List.mem_singleton.mp hp]; exact hk i m' n' h) hJ (fun i h st => ?_) (fun i v m₁ news₁ h tk it hi hv => turn i v m₁ news₁ h tk it hi (by simpa using hv)) done
  · have e : (vs.length : Int) - 1 - ((0 : Nat) : Int) = (vs.length : Int) - 1 := by omega
    rw [e]
    exact hit
  · obtain ⟨it, h1, h2, h3⟩ := st.2.1
    exact ⟨it, h1, objF_rev h2 h3⟩
/-- a loop over a made list -/
theorem iter_list {l : Addr} {vs : List Value} {n₀ : Nat} {news : List (Addr × Obj)} {m₀ : Str → Option Value} (J : Nat → (Str → Option Value) → List (Addr × Obj) → Prop)
    (hh : A.handled = none) (F : Fr h₀ env.locals s.heap m₀) (N : News h₀ env.locals s.heap news) (hk : ∀ i m' n', J i m' n' → (l, listOf vs.toArray n₀) ∈ n') (hJ : J 0 m₀ news)
    (turn : ∀ I i v m₁ news₁ h tk it, i < vs.length → vs[i]? = some v → J i m₁ news₁ → (∀ p ∈ news₁, @Ne Nat p.1 I) → ObjF it → Fr h₀ env.locals h (fun y => if y = x then some v else m₁ y) → News h₀ env.locals h ((I, it) :: news₁) →
      wpAny (model prog w) A (execs body env) (TurnPost h₀ env.locals I it (J (i + 1)) { s with heap := h, toks := tk } Q) E { s with heap := h, toks := tk })
    (done : ∀ h tk m' news', J vs.length m' news' → Fr h₀ env.locals h m' → News h₀ env.locals h news' → Q .next { s with heap := h, toks := tk }) :
    wpAny (model prog w) A (pyIter (.ref l)) (fun it s₂ => LoopAtV prog w A h₀ env x body Q E it s₂) E s := by
  have hm := hk 0 m₀ news hJ
  have hl : s.heap.IsList l vs.toArray := PySem.IsL.isList (N _ hm).1
  refine wpAny_pyIter_list hl ?_
  have hne : l ≠ s.heap.objs.size := Nat.ne_of_lt (Heap.lt_size (N _ hm).1)
  have W := Walks.list (prog := prog) (w := w) hh s.heap.objs.size l hne vs.toArray
  have hlen : vs.toArray.size = vs.length := by simp
  rw [hlen] at W
  refine loop_at (keep := [(l, listOf vs.toArray n₀)]) J W ⟨⟨_, Heap.get?_push_size _ rfl, rfl, rfl⟩, hl.at fun o e => Heap.get?_push_of_some _ e⟩ (F.push _) (News.push F N _) (fun p hp => Nat.ne_of_lt (Heap.lt_size (N p hp).1)) (fun i m' n' h p hp => by rw [List.mem_singleton.mp hp]; exact hk i m' n' h) hJ (fun i h st => ?_) (fun i v m₁ news₁ h tk it hi hv => turn _ i v m₁ news₁ h tk it hi (by simpa using hv)) done
  obtain ⟨it, h1, h2, h3⟩ := st.1
  exact ⟨it, h1, objF_listIter h2 h3⟩
end
end
local macro_rules | `(tactic| walk_at "mine enter") => `(tactic| ((case kA => exact rfl); (case kF => exact rfl); (case kK => assumption); (case k1 => k_asm); (case k2 => k_asm); (case k3 => k_asm); (case k4 => k_asm); (case k5 => k_asm); (case k6 => k_is); (case k7 => k_is); (case k8 => ktr_room); (case k9 => exact BindsTo.of_eq rfl); (case c5 => decide); (case kB => exact locs rfl); (case c2 => exact rfl); (case c3 => exact rfl); (case c4 => exact rfl); k_whole; (try dsimp only)))
local macro_rules | `(tactic| walk_at "mine noF") => `(tactic| (repeat (first | exact noF_nil | (refine noF_cons ?_ ?_; first | assumption | exact noF_cell (by assumption) | (intro _ h; cases h)))))
local macro_rules | `(tactic| walk_at "mine spl") => `(tactic| first | exact Spl.stop | exact Spl.more (by walk_at "mine spl"))
local macro_rules | `(tactic| walk_at "mine use") => `(tactic| (
  (case zB => k_asm); (case zF => k_asm); (case zX => k_asm); (case zN => k_asm); (case zS => walk_at "mine spl"); (case zT => k_asm); (case zk => first | exact rfl | assumption); (case zC1 => k_asm); (case zC2 => k_asm); (case zt => assumption); (case zf => walk_at "mine noF"); (case za => first | trivial | k_mem); (case zd => ((try simp only [depth_deeper]); omega)); (case zu => ((try simp only [units_deeper]); omega))))
section
theorem fresh4 : True := by
  w_top off
  first | walk1 | trivial
theorem fill6 : (fun (_ : OpenLaw) (_ : Params → Frag) => True) PySem.Challenge.rw_gb0003_01 hd.heap_39 := by
  k_fill
  trivial
local macro_rules | `(tactic| k_ne) => `(tactic| (refine neN ?_; (try dsimp only); first
  | exact Ap.ne (by with_reducible assumption)
  | exact (Ap.ne (by with_reducible assumption)).symm
  | exact Apart.ne (by with_reducible assumption) (by k_mem)
  | exact (Apart.ne (by with_reducible assumption) (by k_mem)).symm
  | exact Off.nc (by with_reducible assumption) (by k_mem)
  | exact (Off.nc (by with_reducible assumption) (by k_mem)).symm
  | exact Off.nd (by with_reducible assumption) (by k_mem)
  | exact (Off.nd (by with_reducible assumption) (by k_mem)).symm
  | exact Off.n37 (by with_reducible assumption) (by k_mem)
  | exact (Off.n37 (by with_reducible assumption) (by k_mem)).symm
  | exact Off.n30 (by with_reducible assumption) (by k_mem)
  | exact (Off.n30 (by with_reducible assumption) (by k_mem)).symm
  | fail "mine k_ne"))
local macro_rules | `(tactic| k_all) => `(tactic| first | exact List.forall_mem_nil _ | (refine' List.forall_mem_cons.mpr ⟨?a, ?b⟩; (case a => k_ne); (case b => k_all)))
theorem bits_pos (b : Int) (h : 0 < b) : 0 < (Builtin.Int.intBits b : Int) := by
  unfold Builtin.Int.intBits
  have : (b == 0) = false := by simpa using (by omega : b ≠ 0)
  rw [this]
  simp
section
variable {prog : Program} {w : World} {A : Around} {E : Value → Shared → Prop} {s : Shared} {a c : Int} {t : Tok} {Q : Value → Shared → Prop}
theorem bitlen_by (e : (Builtin.Int.intBits a : Int) = c) (h : Q (.int c s.toks) { s with toks := s.toks + 1 }) : wpAny (model prog w) A (call (.builtin "int.bit_length") [.int a t]) Q E s := by
  subst e
  exact call_int_bit_length h
end
local macro_rules | `(tactic| walk_at "call builtin:int.bit_length") => `(tactic| (refine bitlen_by (by assumption) ?_))
local macro_rules | `(tactic| walk_at "binaryOp LShift int int") => `(tactic| (refine lsh_by (by assumption) (by assumption) (by assumption) (by assumption) ?_))
theorem pin {m : Str → Option Value} {y : Str} {v : Value} (h : m y = some v) : m = fun z => if z = y then some v else m z := by
  funext z
  by_cases e : z = y
  · rw [if_pos e, e, h]
  · rw [if_neg e]
theorem ints_snoc {vs : List Value} {ns : List Int} {x : Int} {t : Tok} (h : IntsAre vs ns) : IntsAre (vs ++ [.int x t]) (ns ++ [x]) := by
  induction h with
  | nil => exact .cons x t .nil
  | cons n u _ ih => exact .cons n u ih
theorem ints_rev {vs : List Value} {ns : List Int} (h : IntsAre vs ns) : IntsAre vs.reverse ns.reverse := by
  induction h with
  | nil => exact .nil
  | cons n u _ ih =>
    rw [List.reverse_cons, List.reverse_cons]
    exact ints_snoc ih
/-- what holds ahead of turn i of the long division -/
def JDiv (l : Addr) (vs : List Value) (n₀ : Nat) (a b : Int) (tb : Tok) (N k : Nat) (i : Nat) (m : Str → Option Value) (news : List (Addr × Obj)) : Prop :=
  ∃ (t1 tn : Tok) (lq : Addr) (vq : List Value) (nq : Nat) (qs : List Int) (q r : Array Value) (c d : Addr) (o u : Obj),
    m (Str.ofString "r") = some (.int (topN N k a i % b) t1) ∧ m (Str.ofString "q_digits") = some (.ref lq) ∧ m (Str.ofString "b") = some (.int b tb) ∧ m (Str.ofString "n") = some (.int (N : Int) tn) ∧
    news = (lq, listOf vq.toArray nq) :: (l, listOf vs.toArray n₀) :: T4 q r c d o u ∧ Tab q r c d o u ∧ Ap lq l ∧ IntsAre vq qs ∧ qs.length = i ∧ valL N qs.reverse = topN N k a i / b ∧ (∀ x ∈ qs, 0 ≤ x)
theorem con_divmod_pos (w : World) (a b : Int) (ta tb : Tok) (ha : 0 ≤ a) (ha2 : a < 2 ^ 62) (hb : 0 < b) (hb2 : b < 2 ^ 62) :
    Con w 49 [.int a ta, .int b tb] 80 (fun _ => True) (Out2 (a / b) (a % b)) := by
  unfold Con
  intro p loose mean mg mb dp un gd cn cs aa ccd cl outer A₀ base h₀ L m rest q r c d o u s Q E B F X N T hk C1 C2 hT hO hA hdp hun hret
  have N4 := t4_of N
  refine wpAny_call ?_
  k_dflt (refine' enter_plain (binds := [(Str.ofString "a", Value.int a ta), (Str.ofString "b", Value.int b tb)]) ?k1 ?k2 ?k3 ?k4 ?k5 ?kA ?kF ?kK ?k6 ?k7 ?k8 ?k9 ?kB ?_ ?c2 ?c3 ?c4 ?c5; walk_at "mine enter")
  intro g L' h₁ kp FG F' N' B' X' T' st bk
  have fin := con_fin N hT hO kp bk hret
  clear N4 N hO kp bk hret F X T B hA
  replace C1 := C1.keeps st
  replace C2 := C2.keeps st
  have hb3 := bits_le b (by omega) hb2
  have hb4 := bits_pos b hb
  (try dsimp only); (try k_fold)
  obtain ⟨N, hN⟩ : ∃ N : Nat, (Builtin.Int.intBits b : Int) = N := ⟨_, rfl⟩
  rw [hN] at hb3 hb4
  k_steps
  rename News _ _ _ _ => N1
  rename Fr _ _ _ _ => F1
  k_dflt (refine' Con.useL (con_int2digits w a N _ _ ha ha2 hb4 hb3) ?zB ?zF ?zX ?zN ?zS ?zT ?zk ?zC1 ?zC2 ?zt ?zf ?za ?zd ?zu ?_; walk_at "mine use")
  intro l vs n₀ q1 r1 c1 d1 o1 u1 h2 tk2 F2 N2 tab1 off1 ap1 iv
  (try simp only [List.cons_append, List.nil_append] at N2)
  clear N1 F1
  (try dsimp only); (try k_fold)
  k_steps
  rename News _ _ _ _ => N3
  rename Fr _ _ _ _ => F3
  obtain ⟨k, hk0, hk1, hk2, -, -⟩ := ndig_ex a N ha ha2 hb4 hb3
  unfold figs at iv
  rw [hk0, Int.toNat_natCast, Int.toNat_natCast] at iv
  rw [Int.toNat_natCast] at hk2
  have hvl : vs.length = k := by rw [iv.length, dg_len]
  rename_i l1q D l2q
  k_dflt (refine' iter_rev (l := l) (vs := vs) (n₀ := n₀) (JDiv l vs n₀ a b tb N k) rfl F3 N3 ?off ?keep ?start ?turn ?done)
  case off =>
    refine List.forall_mem_cons.mpr ⟨?_, List.forall_mem_cons.mpr ⟨?_, ?_⟩⟩
    · exact Nat.ne_of_lt (by omega)
    · exact Nat.ne_of_lt (by omega)
    · k_all
  case keep =>
    rintro i m' n' ⟨_, _, _, _, _, _, _, _, _, _, _, _, _, _, _, _, rfl, _⟩
    exact .tail _ (.head _)
  case start =>
    unfold JDiv
    rw [topN_zero N k a ha hk2, Int.zero_emod, Int.zero_ediv]
    refine' ⟨_, _, _, [], _, [], _, _, _, _, _, _, rfl, rfl, rfl, rfl, rfl, tab1, ?s2, .nil, rfl, rfl, nofun⟩
    exact .mk (Nat.ne_of_gt (by omega))
  case turn =>
    clear N3 F3
    rintro i v m₁ news₁ h tk it hi hv ⟨t1, tn, lq, vq, nq, qs, q2, r2, c2, d2, o2, u2, e1, e2, e3, e4, rfl, tab2, hne, iq, hql, hqv, hqn⟩ hoff itF F5 N5
    have hik : i < k := by omega
    have hdg : (dg N k a)[k - 1 - i]? = some (a / 2 ^ (N * (k - 1 - i)) % 2 ^ N) := dg_get N k a ha _ (by omega)
    obtain ⟨tv, hv2⟩ := iv.get _ _ hdg
    rw [hvl, hv2] at hv
    cases hv
    have hd0 : 0 ≤ a / 2 ^ (N * (k - 1 - i)) % 2 ^ N := Int.emod_nonneg _ (by have : (0 : Int) < 2 ^ N := Int.pow_pos (by decide); omega)
    obtain ⟨g1, g2, g3, g4, g5⟩ := turn_facts b (topN N k a i) (a / 2 ^ (N * (k - 1 - i)) % 2 ^ N) (2 ^ N) hb (topN_nonneg N k a ha i) hd0 (Int.pow_pos (by decide))
    rw [← topN_succ N k a i hik] at g1 g2 g4
    have g6 := topN_le N k a ha (i + 1)
    have g7 := Int.emod_lt_of_pos (topN N k a i) hb
    obtain ⟨R1, hR1⟩ : ∃ R1, topN N k a i % b * 2 ^ (N : Int).toNat = R1 := ⟨_, rfl⟩
    have hR2 : topN N k a i % b * 2 ^ N = R1 := by rw [← hR1, Int.toNat_natCast]
    rw [hR2] at g1 g2 g3 g4
    generalize a / 2 ^ (N * (k - 1 - i)) % 2 ^ N = dv at *
    have h64 : (topN N k a i % b).natAbs < 2 ^ 64 := by omega
    have hN6 : (N : Int) ≤ 1000000 := by omega
    have hN0 : (0 : Int) ≤ (N : Int) := by omega
    rw [pin e1, pin e2, pin e3, pin e4] at F5
    have off2 := off_of (rest := [_, _, _]) N5 tab2 (by walk_at "mine noF")
    have hI := show Apart _ _ from .mk fun y hy => (hoff y hy).symm
    clear hoff
    (try dsimp only); (try k_fold)
    k_steps
    rename News _ _ _ _ => N6
    rename Fr _ _ _ _ => F6
    k_dflt (refine' Con.use2 (con_div2n1n w (R1 + dv) b N _ _ _ g3 (by omega) hb hb2 hN0 (by omega)) ?zB ?zF ?zX ?zN ?zS ?zT ?zk ?zC1 ?zC2 ?zt ?zf ?za ?zd ?zu ?_; walk_at "mine use")
    intro lt t1' t2' q3 r3 c3 d3 o3 u3 h3 tk3 F7 N7 tab3 off3 ap3
    simp only [List.cons_append, List.nil_append] at N7 off3
    clear off2
    clear N6 F6
    (try dsimp only); (try k_fold)
    k_steps
    rename News _ _ _ _ => N8
    rename Fr _ _ _ _ => F8
    dsimp only [TurnPost]
    simp only [List.push_toArray] at N8
    refine' TurnEnd.intro F8 (fun y hy => N8 y (List.mem_cons_of_mem _ hy)) ?hn ?hJ
    case hn => k_all
    case hJ =>
      refine' ⟨_, _, lq, _, _, qs ++ [(R1 + dv) / b], _, _, _, _, _, _, ?e1, rfl, rfl, rfl, rfl, tab3, hne, ?e2, ?e3, ?e4, ?e5⟩
      case e1 => rw [g2]; rfl
      case e2 => exact ints_snoc iq
      case e3 => simp [hql]
      case e4 => rw [valL_rev_snoc, hqv, g1, Int.mul_comm]; omega
      case e5 =>
        intro y hy
        rcases List.mem_append.mp hy with hy | hy
        · exact hqn y hy
        · rw [List.mem_singleton.mp hy]
          exact Int.ediv_nonneg g3 (by omega)
  case done =>
    clear N3 F3
    rintro h tk m' news' ⟨t1, tn, lq, vq, nq, qs, q2, r2, c2, d2, o2, u2, e1, e2, e3, e4, rfl, tab2, hne, iq, hql, hqv, hqn⟩ F5 N5
    rw [hvl] at hql hqv e1
    rw [topN_all] at hqv e1
    rw [pin e1, pin e2, pin e3, pin e4] at F5
    have off2 := off_of (rest := [_, _]) N5 tab2 (by walk_at "mine noF")
    (try dsimp only); (try k_fold)
    k_steps
    dsimp only
    k_dflt (refine' kl_reverse (l := vq.reverse) ?zF ?zN ?ze ?zU ?zz ?_; (case zF => k_asm); (case zN => k_asm); (case zU => k_upd); (case ze => simp); (case zz => (rw [sizeLine_eq]; have hh9 := iq.length; simp; omega)))
    intro h3 F6 N6
    clear N5 F5
    (try dsimp only); (try k_fold)
    k_steps
    rename News _ _ _ _ => N7
    rename Fr _ _ _ _ => F7
    have hql2 : qs.reverse.length ≤ 62 := by rw [List.length_reverse]; omega
    have hqv2 : valS (N : Int).toNat qs.reverse 0 qs.reverse.length < 2 ^ 62 := by
      rw [valS_all, Int.toNat_natCast, hqv]
      have := Int.ediv_le_self b ha
      omega
    k_dflt (refine' Con.useI (con_digits2int w lq vq.reverse qs.reverse nq N _ (ints_rev iq) hql2 hb4 hb3 (fun y hy => hqn y (List.mem_reverse.mp hy)) hqv2) ?zB ?zF ?zX ?zN ?zS ?zT ?zk ?zC1 ?zC2 ?zt ?zf ?za ?zd ?zu ?_; walk_at "mine use")
    intro t3 q3 r3 c3 d3 o3 u3 h4 tk4 F8 N8 tab3 off3
    simp only [List.cons_append, List.nil_append] at N8 off3
    clear N7 F7
    (try dsimp only); (try k_fold)
    k_steps
    rename News _ _ _ _ => N9
    refine' Fin.one fin (by assumption) (News.five N9 (by k_mem) (by k_mem) (by k_mem) (by k_mem) (by k_mem)) tab3 ?nf ?out
    case nf => intro _ h; cases h
    case out => exact out2_of (by rw [Int.toNat_natCast, hqv]) rfl
end
section
theorem fresh5 : True := by
  w_top off
  first | walk1 | trivial
theorem fill7 : (fun (_ : OpenLaw) (_ : Params → Frag) => True) PySem.Challenge.rw_gb0003_01 hd.heap_39 := by
  k_fill
  trivial
local macro_rules | `(tactic| k_ne) => `(tactic| (refine neN ?_; (try dsimp only); first
  | exact Ap.ne (by with_reducible assumption)
  | exact (Ap.ne (by with_reducible assumption)).symm
  | exact Apart.ne (by with_reducible assumption) (by k_mem)
  | exact (Apart.ne (by with_reducible assumption) (by k_mem)).symm
  | exact Off.nc (by with_reducible assumption) (by k_mem)
  | exact (Off.nc (by with_reducible assumption) (by k_mem)).symm
  | exact Off.nd (by with_reducible assumption) (by k_mem)
  | exact (Off.nd (by with_reducible assumption) (by k_mem)).symm
  | exact Off.n37 (by with_reducible assumption) (by k_mem)
  | exact (Off.n37 (by with_reducible assumption) (by k_mem)).symm
  | exact Off.n30 (by with_reducible assumption) (by k_mem)
  | exact (Off.n30 (by with_reducible assumption) (by k_mem)).symm
  | fail "mine k_ne"))
local macro_rules | `(tactic| k_all) => `(tactic| first | exact List.forall_mem_nil _ | (refine' List.forall_mem_cons.mpr ⟨?a, ?b⟩; (case a => k_ne); (case b => k_all)))
/-- a goal that the walk shall leave as it stands -/
structure Held (P : Prop) : Prop where
  into ::
  out : P
local macro_rules | `(tactic| walk_at "exec While Compare cons nil") => `(tactic| refine Held.out ?_)
theorem con_int_divmod (w : World) (a b : Int) (ta tb : Tok) (ha : 0 ≤ a) (ha2 : a < 2 ^ 62) (hb : 0 < b) (hb2 : b < 2 ^ 62) :
    Con w 56 [.int a ta, .int b tb] 90 (fun _ => True) (Out2 (a / b) (a % b)) := by
  unfold Con
  intro p loose mean mg mb dp un gd cn cs aa ccd cl outer A₀ base h₀ L m rest q r c d o u s Q E B F X N T hk C1 C2 hT hO hA hdp hun hret
  have N4 := t4_of N
  refine wpAny_call ?_
  k_dflt (refine' enter_plain (binds := [(Str.ofString "a", Value.int a ta), (Str.ofString "b", Value.int b tb)]) ?k1 ?k2 ?k3 ?k4 ?k5 ?kA ?kF ?kK ?k6 ?k7 ?k8 ?k9 ?kB ?_ ?c2 ?c3 ?c4 ?c5; walk_at "mine enter")
  intro g L' h₁ kp FG F' N' B' X' T' st bk
  have fin := con_fin N hT hO kp bk hret
  clear N4 N hO kp bk hret F X T B hA
  replace C1 := C1.keeps st
  replace C2 := C2.keeps st
  (try dsimp only); (try k_fold)
  k_steps
  all_goals first | (exfalso; omega) | skip
  rename News _ _ _ _ => N1
  rename Fr _ _ _ _ => F1
  k_dflt (refine' Con.use2 (con_divmod_pos w a b _ _ ha ha2 hb hb2) ?zB ?zF ?zX ?zN ?zS ?zT ?zk ?zC1 ?zC2 ?zt ?zf ?za ?zd ?zu ?_; walk_at "mine use")
  intro l t1 t2 q1 r1 c1 d1 o1 u1 h2 tk2 F2 N2 tab1 off1 ap1
  simp only [List.cons_append, List.nil_append] at N2 off1
  refine' Fin.one fin F2 N2 tab1 ?nf (out2_of rfl rfl)
  intro _ h; cases h
local macro_rules | `(tactic| walk_at "call ref") => `(tactic| (
  k_here; k_dflt (refine' Con.use2 (con_int_divmod _ _ _ _ _ ?a1 ?a2 ?a3 ?a4) ?zB ?zF ?zX ?zN ?zS ?zT ?zk ?zC1 ?zC2 ?zt ?zf ?za ?zd ?zu ?_; (case a1 => omega); (case a2 => omega); (case a3 => omega); (case a4 => omega); walk_at "mine use")
  intro l' t1' t2' q' r' c' d' o' u' h' tk' F' N' tab' off' ap'; (try simp only [List.cons_append, List.nil_append] at N' off' ap'); (try k_sweep); (try dsimp only); (try k_fold)))
/-- ahead of a turn of the while -/
def JOften (x : Int) (n : Nat) (m : Str → Option Value) (news : List (Addr × Obj)) : Prop :=
  ∃ (y f : Int) (t1 t2 : Tok) (q r : Array Value) (c d : Addr) (o u : Obj),
    m (Str.ofString "number") = some (.int y t1) ∧ m (Str.ofString "found") = some (.int f t2) ∧ news = T4 q r c d o u ∧ Tab q r c d o u ∧
    0 < y ∧ y < 2 ^ n ∧ n ≤ 62 ∧ f + v2f n y = v2f 62 x
theorem con_often (w : World) (x : Int) (tx : Tok) (hx : 0 < x) (hx2 : x < 2 ^ 62) :
    Con w 77 [.int x tx] 100 (fun _ => True) (OutI (v2f 62 x)) := by
  unfold Con
  intro p loose mean mg mb dp un gd cn cs aa ccd cl outer A₀ base h₀ L m rest q r c d o u s Q E B F X N T hk C1 C2 hT hO hA hdp hun hret
  have N4 := t4_of N
  refine wpAny_call ?_
  k_dflt (refine' enter_plain (binds := [(Str.ofString "number", Value.int x tx)]) ?k1 ?k2 ?k3 ?k4 ?k5 ?kA ?kF ?kK ?k6 ?k7 ?k8 ?k9 ?kB ?_ ?c2 ?c3 ?c4 ?c5; walk_at "mine enter")
  intro g L' h₁ kp FG F' N' B' X' T' st bk
  have fin := con_fin N hT hO kp bk hret
  clear N4 N hO kp bk hret F X T B hA
  replace C1 := C1.keeps st
  replace C2 := C2.keeps st
  (try dsimp only); (try k_fold)
  k_steps
  refine Held.into ?_
  rename News _ _ _ _ => N1
  rename Fr _ _ _ _ => F1
  k_dflt (refine' While_inv (JOften x) (n₀ := 62) ?zF ?zN ?start ?turn ?hE; (case zF => exact F1); (case zN => exact N1))
  case hE => passes_own
  case start => exact ⟨x, 0, _, _, _, _, _, _, _, _, rfl, rfl, rfl, hT, hx, hx2, Nat.le_refl _, by omega⟩
  case turn =>
    clear N1 F1
    rintro n m₁ news₁ h₁ tk₁ F5 N5 ⟨y, f, t1, t2, q2, r2, c2, d2, o2, u2, e1, e2, rfl, tab2, hy0, hyn, hn62, hv⟩
    rw [pin e1, pin e2] at F5
    have hy62 : y < 2 ^ 62 := Int.lt_of_lt_of_le hyn (by exact_mod_cast Nat.pow_le_pow_right (by decide : 0 < 2) hn62)
    (try dsimp only); (try k_fold)
    k_steps
    · obtain ⟨n, rfl⟩ : ∃ n', n = n' + 1 := by
        cases n with
        | zero => exfalso; rw [Int.pow_zero] at hyn; omega
        | succ n => exact ⟨n, rfl⟩
      have hev : y % 2 = 0 := by assumption
      rw [v2f_even n y hev] at hv
      refine' WhileStep.intro (n' := n) ?zF (News.four ?zN ?m1 ?m2 ?m3 ?m4) (Nat.lt_succ_self _) ⟨_, _, _, _, _, _, _, _, _, _, ?e1, ?e2, rfl, ?tab, ?y0, ?yn, ?n62, ?yv⟩
      case tab => assumption
      case zF => k_asm
      case e1 => rfl
      case e2 => rfl
      case zN => k_asm
      case m1 => k_mem
      case m2 => k_mem
      case m3 => k_mem
      case m4 => k_mem
      case y0 => omega
      case yn => rw [Int.pow_succ] at hyn; omega
      case n62 => omega
      case yv => omega
    · have hod : y % 2 ≠ 0 := by assumption
      rw [v2f_odd n y hod] at hv
      refine' Fin.none fin ?zFb (News.four ?zNb ?m1b ?m2b ?m3b ?m4b) ?tabb ⟨rfl, _, ?outb⟩
      case tabb => assumption
      case zFb => k_asm
      case zNb => k_asm
      case m1b => k_mem
      case m2b => k_mem
      case m3b => k_mem
      case m4b => k_mem
      case outb => rw [← hv, Int.add_zero]
end
section
theorem objF_rangeIter {o : Obj} {x y z : Int} (h : o = { cls := .type "range_iterator", dict := none, data := .fields #[rawInt x, rawInt y, rawInt z], slots := #[] }) : ObjF o := fun vs e => by
  subst h
  cases e
  refine ⟨nofun, fun q t h => ?_⟩
  cases h
section
variable {prog : Program} {w : World} {A : Around} {E : Value → Shared → Prop} {s : Shared} {env : Env} {h₀ : Heap} {x : Str} {body : List Stmt} {Q : Flow → Shared → Prop}
/-- a loop over a range by ones -/
theorem iter_range {r : Addr} {a₀ b₀ : Int} {t₀ u₀ v₀ : Tok} {n : Nat} {news : List (Addr × Obj)} {m₀ : Str → Option Value} (J : Nat → (Str → Option Value) → List (Addr × Obj) → Prop)
    (hh : A.handled = none) (hr : IsRange s.heap r a₀ b₀ 1 t₀ u₀ v₀) (hsmall : Builtin.Range.small a₀ b₀ 1 = true) (hn : Builtin.Range.rangeSize a₀ b₀ 1 = (n : Int)) (F : Fr h₀ env.locals s.heap m₀) (N : News h₀ env.locals s.heap news) (hJ : J 0 m₀ news)
    (turn : ∀ I i t m₁ news₁ h tk it, i < n → J i m₁ news₁ → (∀ p ∈ news₁, @Ne Nat p.1 I) → ObjF it → Fr h₀ env.locals h (fun y => if y = x then some (.int (a₀ + (i : Int)) t) else m₁ y) → News h₀ env.locals h ((I, it) :: news₁) →
      wpAny (model prog w) A (execs body env) (TurnPost h₀ env.locals I it (J (i + 1)) { s with heap := h, toks := tk } Q) E { s with heap := h, toks := tk })
    (done : ∀ h tk m' news', J n m' news' → Fr h₀ env.locals h m' → News h₀ env.locals h news' → Q .next { s with heap := h, toks := tk }) :
    wpAny (model prog w) A (pyIter (.ref r)) (fun it s₂ => LoopAtV prog w A h₀ env x body Q E it s₂) E s := by
  refine wpAny_pyIter_range hr hsmall ?_
  have W := PyProof.Rows.LCg.range_walks (prog := prog) (w := w) (I := s.heap.objs.size) hh a₀ n
  refine loop_at (keep := []) (it₀ := { cls := .type "range_iterator", data := .fields #[rawInt a₀, rawInt (Builtin.Range.rangeSize a₀ b₀ 1), rawInt 1] }) J W (by show IsRangeIter _ _ _ _ _; rw [hn]; simpa using Heap.get?_push_size _ rfl) (F.push _) (News.push F N _) (fun p hp => Nat.ne_of_lt (Heap.lt_size (N p hp).1)) (fun _ _ _ _ p hp => nomatch hp) hJ (fun i h st => ⟨_, st, objF_rangeIter rfl⟩) (fun i v m₁ news₁ h tk it hi hv hJ₁ ho hf F₁ N₁ => ?_) done
  obtain ⟨t, rfl⟩ := hv
  exact turn _ i t m₁ news₁ h tk it hi hJ₁ ho hf F₁ N₁
end
theorem range_small (a b : Int) (ha : 0 ≤ a) (hb : b ≤ 1000) (hab : a ≤ b) : Builtin.Range.small a b 1 = true ∧ Builtin.Range.rangeSize a b 1 = ((b - a).toNat : Int) := by
  have e : Builtin.Range.rangeSize a b 1 = ((b - a).toNat : Int) := by
    unfold Builtin.Range.rangeSize
    simp
    omega
  refine ⟨?_, e⟩
  unfold Builtin.Range.small
  rw [e]
  simp [Builtin.Range.rangeFitsLong]
  omega
end
section
theorem fresh6 : True := by
  w_top off
  first | walk1 | trivial
theorem fill8 : (fun (_ : OpenLaw) (_ : Params → Frag) => True) PySem.Challenge.rw_gb0003_01 hd.heap_39 := by
  k_fill
  trivial
local macro_rules | `(tactic| k_ne) => `(tactic| (refine neN ?_; (try dsimp only); first
  | exact Ap.ne (by with_reducible assumption)
  | exact (Ap.ne (by with_reducible assumption)).symm
  | exact Apart.ne (by with_reducible assumption) (by k_mem)
  | exact (Apart.ne (by with_reducible assumption) (by k_mem)).symm
  | exact Off.nc (by with_reducible assumption) (by k_mem)
  | exact (Off.nc (by with_reducible assumption) (by k_mem)).symm
  | exact Off.nd (by with_reducible assumption) (by k_mem)
  | exact (Off.nd (by with_reducible assumption) (by k_mem)).symm
  | exact Off.n37 (by with_reducible assumption) (by k_mem)
  | exact (Off.n37 (by with_reducible assumption) (by k_mem)).symm
  | exact Off.n30 (by with_reducible assumption) (by k_mem)
  | exact (Off.n30 (by with_reducible assumption) (by k_mem)).symm
  | fail "mine k_ne"))
local macro_rules | `(tactic| k_all) => `(tactic| first | exact List.forall_mem_nil _ | (refine' List.forall_mem_cons.mpr ⟨?a, ?b⟩; (case a => k_ne); (case b => k_all)))
local macro_rules | `(tactic| walk_at "exec While Compare cons nil") => `(tactic| refine Held.out ?_)
local macro_rules | `(tactic| walk_at "binaryOp Mult int int") => `(tactic| (refine mul_by (by assumption) (by assumption) ?_))
local macro_rules | `(tactic| walk_at "pyIter ref") => `(tactic| refine Held.out ?_)
def JProd (i : Nat) (m : Str → Option Value) (news : List (Addr × Obj)) (q r : Array Value) (c d : Addr) (o u : Obj) : Prop :=
  ∃ t, m (Str.ofString "found") = some (.int (facI i) t) ∧ news = T4 q r c d o u
theorem con_product (w : World) (n : Nat) (tx : Tok) (hn : n ≤ 18) :
    Con w 84 [.int (n : Int) tx] 10 (fun _ => True) (OutI (facI n)) := by
  unfold Con
  intro p loose mean mg mb dp un gd cn cs aa ccd cl outer A₀ base h₀ L m rest q r c d o u s Q E B F X N T hk C1 C2 hT hO hA hdp hun hret
  have N4 := t4_of N
  refine wpAny_call ?_
  k_dflt (refine' enter_plain (binds := [(Str.ofString "count", Value.int (n : Int) tx)]) ?k1 ?k2 ?k3 ?k4 ?k5 ?kA ?kF ?kK ?k6 ?k7 ?k8 ?k9 ?kB ?_ ?c2 ?c3 ?c4 ?c5; walk_at "mine enter")
  intro g L' h₁ kp FG F' N' B' X' T' st bk
  have fin := con_fin N hT hO kp bk hret
  clear N4 N hO kp bk hret F X T B hA
  replace C1 := C1.keeps st
  replace C2 := C2.keeps st
  (try dsimp only); (try k_fold)
  k_steps
  refine Held.into ?_
  rename_i hr0 hF0 hN0 hk0
  obtain ⟨hs1, hs2⟩ := range_small 1 ((n : Int) + 1) (by omega) (by omega) (by omega)
  have hs3 : (((n : Int) + 1 - 1).toNat : Int) = (n : Int) := by omega
  rw [hs3] at hs2
  k_dflt (refine' iter_range (n := n) (fun i m' n' => JProd i m' n' q r c d o u) rfl ?zr ?zs ?zn ?zF ?zN ?start ?turn ?done; (case zr => exact hr0); (case zs => exact hs1); (case zn => exact hs2); (case zF => exact hF0); (case zN => exact hN0))
  case start => exact ⟨_, rfl, rfl⟩
  case turn =>
    rintro I i t m₁ news₁ h tk it hi ⟨t1, e1, rfl⟩ hoff itF F5 N5
    rw [pin e1] at F5
    have hI := show Apart _ _ from .mk fun y hy => (hoff y hy).symm
    clear hoff
    obtain ⟨b1, b2⟩ := facI_bounds i (by omega)
    have b3 := bits_le (facI i) (by omega) b2
    have b4 : Builtin.Int.intBits (facI i) ≤ 64 := by omega
    have b5 : facI i * (1 + (i : Int)) = facI (i + 1) := by
      show _ = facI i * ((i : Int) + 1)
      rw [Int.add_comm]
    (try dsimp only); (try k_fold)
    k_steps
    dsimp only [TurnPost]
    rename News _ _ _ _ => N8
    rename Fr _ _ _ _ => F8
    exact TurnEnd.intro F8 N8 (by k_all) ⟨_, rfl, rfl⟩
  case done =>
    rintro h tk m' news' ⟨t1, e1, rfl⟩ F5 N5
    rw [pin e1] at F5
    (try dsimp only); (try k_fold)
    k_steps
    exact Fin.none fin (by assumption) N5 hT ⟨rfl, _, rfl⟩
end
section
theorem fresh7 : True := by
  w_top off
  first | walk1 | trivial
theorem fill9 : (fun (_ : OpenLaw) (_ : Params → Frag) => True) PySem.Challenge.rw_gb0003_01 hd.heap_39 := by
  k_fill
  trivial
local macro_rules | `(tactic| k_ne) => `(tactic| (refine neN ?_; (try dsimp only); first
  | exact Ap.ne (by with_reducible assumption)
  | exact (Ap.ne (by with_reducible assumption)).symm
  | exact Apart.ne (by with_reducible assumption) (by k_mem)
  | exact (Apart.ne (by with_reducible assumption) (by k_mem)).symm
  | exact Off.nc (by with_reducible assumption) (by k_mem)
  | exact (Off.nc (by with_reducible assumption) (by k_mem)).symm
  | exact Off.nd (by with_reducible assumption) (by k_mem)
  | exact (Off.nd (by with_reducible assumption) (by k_mem)).symm
  | exact Off.n37 (by with_reducible assumption) (by k_mem)
  | exact (Off.n37 (by with_reducible assumption) (by k_mem)).symm
  | exact Off.n30 (by with_reducible assumption) (by k_mem)
  | exact (Off.n30 (by with_reducible assumption) (by k_mem)).symm
  | fail "mine k_ne"))
local macro_rules | `(tactic| k_all) => `(tactic| first | exact List.forall_mem_nil _ | (refine' List.forall_mem_cons.mpr ⟨?a, ?b⟩; (case a => k_ne); (case b => k_all)))
local macro_rules | `(tactic| walk_at "exec While Compare cons nil") => `(tactic| refine Held.out ?_)
local macro_rules | `(tactic| walk_at "pyIter ref") => `(tactic| refine Held.out ?_)
local macro_rules | `(tactic| walk_at "call ref") => `(tactic| (
  k_here; k_dflt (refine' Con.useL (con_int2digits _ _ _ _ _ ?a1 ?a2 ?a3 ?a4) ?zB ?zF ?zX ?zN ?zS ?zT ?zk ?zC1 ?zC2 ?zt ?zf ?za ?zd ?zu ?_; (case a1 => omega); (case a2 => omega); (case a3 => omega); (case a4 => omega); walk_at "mine use")
  intro l' vs' n' q' r' c' d' o' u' h' tk' F' N' tab' off' ap' iv'; (try simp only [List.cons_append, List.nil_append] at N' off' ap'); (try k_sweep); (try dsimp only); (try k_fold)))
theorem figs_len (a : Int) (ha : 0 ≤ a) (ha2 : a < 2 ^ 62) : (figs a 1).length ≤ 62 := by
  obtain ⟨k, hk0, hk1, -, -, -⟩ := ndig_ex a 1 ha ha2 (by decide) (by decide)
  unfold figs
  rw [dg_len, hk0, Int.toNat_natCast]
  exact hk1
local macro_rules | `(tactic| walk_at "binaryOp Add ref ref") => `(tactic| (
  k_here; k_dflt (refine' kmk_add_ints (ms := nils) ?zF ?zN ?za ?zb ?zi ?zj ?_ ?zz; (case zF => k_asm); (case zN => k_asm); (case za => exact News.isList (by k_asm) (by k_mem)); (case zb => exact News.isList (by k_asm) (by k_mem)); (case zi => assumption); (case zj => assumption); (case zz => (rw [sizeLine_eq, show nils.length = 6 from rfl]; omega)))
  intro D' ws' h' F' N' l1 hI'; (try k_lt l1); (try k_sweep); (try dsimp only)))
local macro_rules | `(tactic| walk_at "subscriptTail") => `(tactic| (k_here; (with_reducible show wpAny _ _ (subscriptTail _ _ (Value.ref _) (Value.int _ _)) _ _ _); k_dflt (refine' ksa_sub ?k1 ?k2 ?k3 ?k4 ?k5 ?k6 ?_ ?k7; (case k1 => k_asm); (case k2 => k_mem); (case k3 => with_reducible assumption); (case k4 => omega); (case k5 => omega); (case k6 => omega); (case k7 => with_unfolding_all rfl); k_whole); intro _))
theorem News.put {h₀ h : Heap} {L : Addr} {news l : List (Addr × Obj)} {a : Addr × Obj} (N : News h₀ L h news) (m : a ∈ news) (h2 : News h₀ L h l) : News h₀ L h (a :: l) := List.forall_mem_cons.mpr ⟨N _ m, h2⟩
def JCar (A B : List Int) (lx ly : Addr) (led : List (Addr × Obj)) (i : Nat) (m : Str → Option Value) (news : List (Addr × Obj)) : Prop :=
  ∃ t1 t2, m (Str.ofString "carry") = some (.int (carS A B i).1 t1) ∧ m (Str.ofString "found") = some (.int (carS A B i).2 t2) ∧ m (Str.ofString "left") = some (.ref lx) ∧ m (Str.ofString "right") = some (.ref ly) ∧ news = led
theorem carS_one (A B : List Int) (i : Nat) : (carS A B (i + 1)).1 = if decide (1 < A.getD (0 + (i : Int)).toNat 0 + B.getD (0 + (i : Int)).toNat 0 + (carS A B i).1) = true then 1 else 0 := by
  have e : (0 + (i : Int)).toNat = i := by omega
  rw [e]
  simp [carS]
theorem carS_two (A B : List Int) (i : Nat) : (carS A B (i + 1)).2 = (carS A B i).2 + if decide (1 < A.getD (0 + (i : Int)).toNat 0 + B.getD (0 + (i : Int)).toNat 0 + (carS A B i).1) = true then 1 else 0 := by
  have e : (0 + (i : Int)).toNat = i := by omega
  rw [e]
  simp [carS]
theorem con_carries (w : World) (a b : Int) (ta tb : Tok) (ha : 0 ≤ a) (ha2 : a < 2 ^ 62) (hb : 0 ≤ b) (hb2 : b < 2 ^ 62) :
    Con w 91 [.int a ta, .int b tb] 80 (fun _ => True) (OutI (carS (figs a 1 ++ nils) (figs b 1 ++ nils) 6).2) := by
  unfold Con
  intro p loose mean mg mb dp un gd cn cs aa ccd cl outer A₀ base h₀ L m rest q r c d o u s Q E B F X N T hk C1 C2 hT hO hA hdp hun hret
  have N4 := t4_of N
  refine wpAny_call ?_
  k_dflt (refine' enter_plain (binds := [(Str.ofString "one", Value.int a ta), (Str.ofString "other", Value.int b tb)]) ?k1 ?k2 ?k3 ?k4 ?k5 ?kA ?kF ?kK ?k6 ?k7 ?k8 ?k9 ?kB ?_ ?c2 ?c3 ?c4 ?c5; walk_at "mine enter")
  intro g L' h₁ kp FG F' N' B' X' T' st bk
  have fin := con_fin N hT hO kp bk hret
  clear N4 N hO kp bk hret F X T B hA
  replace C1 := C1.keeps st
  replace C2 := C2.keeps st
  have hfa := figs_len a ha ha2
  have hfb := figs_len b hb hb2
  (try dsimp only); (try k_fold)
  k_steps
  refine Held.into ?_
  rename_i lx xs _ hI1 _ l2 vs2 n2 q1 r1 c1 d1 o1 u1 _ _ tab1 off1 ap1 iv2 lz _ _ lm _ y1 y2 y3 y4 y5 y6 _ ly ys _ hI2 _ lt _ _ _ _ _ _ _ _ _ _ _ _ hr0 hF0 hN0 hk0
  have hN1 := News.put (a := (ly, listOf ys.toArray 0)) hN0 (by k_mem) (News.put (a := (lx, listOf xs.toArray 0)) hN0 (by k_mem) (News.four (a1 := (37, tabObj q1)) (a2 := (30, tabObj r1)) (a3 := (c1, o1)) (a4 := (d1, u1)) hN0 (by k_mem) (by k_mem) (by k_mem) (by k_mem)))
  clear off1 ap1 y1 y3 y4 y5 y6 iv2
  generalize figs a 1 = fa at *
  generalize figs b 1 = fb at *
  obtain ⟨hs1, hs2⟩ := range_small 0 6 (by omega) (by omega) (by omega)
  k_dflt (refine' iter_range (n := 6) (JCar (fa ++ nils) (fb ++ nils) lx ly [(ly, listOf ys.toArray 0), (lx, listOf xs.toArray 0), (37, tabObj q1), (30, tabObj r1), (c1, o1), (d1, u1)]) rfl ?zr ?zs ?zn ?zF ?zN ?start ?turn ?done; (case zr => exact hr0); (case zs => exact hs1); (case zn => exact hs2); (case zF => exact hF0); (case zN => exact hN1))
  case start => exact ⟨_, _, rfl, rfl, rfl, rfl, rfl⟩
  case turn =>
    clear hN1 hN0 hF0 hr0 hk0
    rintro I i t m₁ news₁ h tk it hi ⟨t1, t2, e1, e2, e3, e4, rfl⟩ hoff itF F5 N5
    rw [pin e1, pin e2, pin e3, pin e4] at F5
    have hI := show Apart _ _ from .mk fun y hy => (hoff y hy).symm
    clear hoff
    have hla : (fa ++ nils).length = fa.length + 6 := List.length_append
    have hlb : (fb ++ nils).length = fb.length + 6 := List.length_append
    (try dsimp only); (try k_fold)
    k_steps
    rename News _ _ _ _ => N8
    rename Fr _ _ _ _ => F8
    dsimp only [TurnPost]
    refine' TurnEnd.intro F8 N8 ?hn ⟨_, _, ?e1, ?e2, rfl, rfl, rfl⟩
    case hn => exact fun y hy => (hI.all y hy).symm
    case e1 => rw [carS_one]; rfl
    case e2 => rw [carS_two]; rfl
  case done =>
    clear hN1 hN0 hF0 hr0 hk0
    rintro h tk m' news' ⟨t1, t2, e1, e2, e3, e4, rfl⟩ F5 N5
    rw [pin e1, pin e2, pin e3, pin e4] at F5
    (try dsimp only); (try k_fold)
    k_steps
    refine' Fin.none fin ?zF ?zN ?zt ⟨rfl, _, rfl⟩
    case zt => exact tab1
    case zF => k_asm
    case zN => exact News.four N5 (by k_mem) (by k_mem) (by k_mem) (by k_mem)
end
section
theorem fresh8 : True := by
  w_top off
  first | walk1 | trivial
theorem fill10 : (fun (_ : OpenLaw) (_ : Params → Frag) => True) PySem.Challenge.rw_gb0003_01 hd.heap_39 := by
  k_fill
  trivial
local macro_rules | `(tactic| k_ne) => `(tactic| (refine neN ?_; (try dsimp only); first
  | exact Ap.ne (by with_reducible assumption)
  | exact (Ap.ne (by with_reducible assumption)).symm
  | exact Apart.ne (by with_reducible assumption) (by k_mem)
  | exact (Apart.ne (by with_reducible assumption) (by k_mem)).symm
  | exact Off.nc (by with_reducible assumption) (by k_mem)
  | exact (Off.nc (by with_reducible assumption) (by k_mem)).symm
  | exact Off.nd (by with_reducible assumption) (by k_mem)
  | exact (Off.nd (by with_reducible assumption) (by k_mem)).symm
  | exact Off.n37 (by with_reducible assumption) (by k_mem)
  | exact (Off.n37 (by with_reducible assumption) (by k_mem)).symm
  | exact Off.n30 (by with_reducible assumption) (by k_mem)
  | exact (Off.n30 (by with_reducible assumption) (by k_mem)).symm
  | fail "mine k_ne"))
local macro_rules | `(tactic| k_all) => `(tactic| first | exact List.forall_mem_nil _ | (refine' List.forall_mem_cons.mpr ⟨?a, ?b⟩; (case a => k_ne); (case b => k_all)))
local macro_rules | `(tactic| walk_at "exec While Compare cons nil") => `(tactic| refine Held.out ?_)
local macro_rules | `(tactic| walk_at "pyIter ref") => `(tactic| refine Held.out ?_)
local macro_rules | `(tactic| walk_at "call ref") => `(tactic| (
  k_here; k_dflt (refine' Con.useL (con_int2digits _ _ _ _ _ ?a1 ?a2 ?a3 ?a4) ?zB ?zF ?zX ?zN ?zS ?zT ?zk ?zC1 ?zC2 ?zt ?zf ?za ?zd ?zu ?_; (case a1 => omega); (case a2 => omega); (case a3 => omega); (case a4 => omega); walk_at "mine use")
  intro l' vs' n' q' r' c' d' o' u' h' tk' F' N' tab' off' ap' iv'; (try simp only [List.cons_append, List.nil_append] at N' off' ap'); (try k_sweep); (try dsimp only); (try k_fold)))
local macro_rules | `(tactic| walk_at "call ref") => `(tactic| (
  k_here; k_dflt (refine' Con.useI (con_product _ _ _ ?a1) ?zB ?zF ?zX ?zN ?zS ?zT ?zk ?zC1 ?zC2 ?zt ?zf ?za ?zd ?zu ?_; (case a1 => omega); walk_at "mine use")
  intro t' q' r' c' d' o' u' h' tk' F' N' tab' off'; (try simp only [List.cons_append, List.nil_append] at N' off'); (try k_sweep); (try dsimp only); (try k_fold)))
local macro_rules | `(tactic| walk_at "call ref") => `(tactic| (
  k_here; k_dflt (refine' Con.useI (con_often _ _ _ ?a1 ?a2) ?zB ?zF ?zX ?zN ?zS ?zT ?zk ?zC1 ?zC2 ?zt ?zf ?za ?zd ?zu ?_; (case a1 => first | assumption | omega); (case a2 => first | assumption | omega); walk_at "mine use")
  intro t' q' r' c' d' o' u' h' tk' F' N' tab' off'; (try simp only [List.cons_append, List.nil_append] at N' off'); (try k_sweep); (try dsimp only); (try k_fold)))
theorem noF_dict {K : Type} [DecidableEq K] {prog : Program} {w : World} {knd : PySem.KeyKind prog w K} {o : Obj} {kvs : List (K × Value)} (h : o.IsDictOf knd kvs) : ObjF o := fun vs e => by
  obtain ⟨es, ep, _, h2, _⟩ := h
  rw [e] at h2; cases h2
theorem News.six {h₀ h : Heap} {L : Addr} {news : List (Addr × Obj)} {a1 a2 a3 a4 a5 a6 : Addr × Obj} (N : News h₀ L h news) (m1 : a1 ∈ news) (m2 : a2 ∈ news) (m3 : a3 ∈ news) (m4 : a4 ∈ news) (m5 : a5 ∈ news) (m6 : a6 ∈ news) : News h₀ L h [a1, a2, a3, a4, a5, a6] :=
  News.put N m1 (News.five N m2 m3 m4 m5 m6)
/-- a call of _law_told hands back a new tuple, and a new empty dict in it -/
def OutTold (w : World) (n : Nat) (v : Value) (new : List (Addr × Obj)) : Prop :=
  ∃ (l D : Addr) (od : Obj) (t1 t2 t3 t4 : Tok), v = .ref l ∧ new = [(l, { cls := .type "tuple", data := .seq #[.int (n : Int) t1, .int (figs n 1).sum t2, .int (v2f 62 (facI n)) t3, .int 1 t4, .ref D] }), (D, od)] ∧
    (D == sysModules) = false ∧ od.IsDictOf (PySem.strKind PySem.Challenge.rw_gb0003_01.row.prog w) [] ∧ od.IsDictOf (PySem.intKind PySem.Challenge.rw_gb0003_01.row.prog w) [] ∧ Ap l D
theorem con_told (w : World) (n : Nat) (tx : Tok) (hn : n ≤ 18) :
    Con w 98 [.int (n : Int) tx] 120 (fun _ => True) (OutTold w n) := by
  unfold Con
  intro p loose mean mg mb dp un gd cn cs aa ccd cl outer A₀ base h₀ L m rest q r c d o u s Q E B F X N T hk C1 C2 hT hO hA hdp hun hret
  have N4 := t4_of N
  refine wpAny_call ?_
  k_dflt (refine' enter_plain (binds := [(Str.ofString "count", Value.int (n : Int) tx)]) ?k1 ?k2 ?k3 ?k4 ?k5 ?kA ?kF ?kK ?k6 ?k7 ?k8 ?k9 ?kB ?_ ?c2 ?c3 ?c4 ?c5; walk_at "mine enter")
  intro g L' h₁ kp FG F' N' B' X' T' st bk
  have fin := con_fin N hT hO kp bk hret
  clear N4 N hO kp bk hret F X T B hA
  replace C1 := C1.keeps st
  replace C2 := C2.keeps st
  obtain ⟨hf1, hf2⟩ := facI_bounds n hn
  have hf0 : 0 < facI n := by omega
  have hfa := figs_len n (by omega) (by omega)
  (try dsimp only); (try k_fold)
  k_steps
  rename News _ _ _ _ => N9
  refine' fin.out _ [_, _] _ _ _ _ _ _ _ _ _ _ (by assumption) ?zN ?zt ?nf ⟨_, _, _, _, _, _, _, rfl, rfl, ?o1, ?o2, ?o3, ?o4⟩
  case zt => assumption
  case zN => exact News.six N9 (by k_mem) (by k_mem) (by k_mem) (by k_mem) (by k_mem) (by k_mem)
  case o1 => assumption
  case o2 => assumption
  case o3 => assumption
  case o4 => exact .mk (Nat.ne_of_gt (by omega))
  case nf => exact noF_cons (fun _ h => by cases h) (noF_cons (noF_dict (by assumption)) noF_nil)
section
variable {w : World} {f : Addr} {args : List Value} {dn : Nat} {Arg : List (Addr × Obj) → Prop} {p : Program} {loose : List Str} {mean : ExcName → Option Value} {mg mb : Str → Option Value} {dp un : Nat} {gd : Option (List Code)} {cn : Str} {cs : Scope} {a : Addr} {ccd : Value} {cl : List (Str × Addr)} {outer : List Env} {A₀ : Around} {base h₀ : Heap} {L : Addr}
  {m : Str → Option Value} {led rest : List (Addr × Obj)} {q r : Array Value} {c d : Addr} {o u : Obj} {s : Shared} {Q E : Value → Shared → Prop}
theorem Con.useT {n : Nat} (C : Con w f args dn Arg (OutTold w n)) (B : Below A₀ base outer h₀) (F : Fr h₀ L s.heap m) (X : (hd.heap_39 w.params).In h₀) (N : News h₀ L s.heap led) (S : Spl led rest q r c d o u) (T : Top p loose mean mg mb h₀) (hk : cs.kind = .function)
    (C1 : CodeHd h₀ 41 37) (C2 : CodeHd h₀ 34 30) (tab : Tab q r c d o u) (nf : NoF rest) (arg : Arg rest) (hdp : dp + dn < recursionLimit) (hun : un + 8 * dn < cLine)
    (ret : ∀ (l D : Addr) (od : Obj) (t1 t2 t3 t4 : Tok) q' r' c' d' o' u' h' tk', Fr h₀ L h' m →
      News h₀ L h' ((l, { cls := .type "tuple", data := .seq #[.int (n : Int) t1, .int (figs n 1).sum t2, .int (v2f 62 (facI n)) t3, .int 1 t4, .ref D] }) :: (D, od) :: (rest ++ T4 q' r' c' d' o' u')) → Tab q' r' c' d' o' u' →
      Off ((l, { cls := .type "tuple", data := .seq #[.int (n : Int) t1, .int (figs n 1).sum t2, .int (v2f 62 (facI n)) t3, .int 1 t4, .ref D] }) :: (D, od) :: rest) c' d' → Apart l rest → Apart D rest → Ap l D →
      (D == sysModules) = false → od.IsDictOf (PySem.strKind PySem.Challenge.rw_gb0003_01.row.prog w) [] → od.IsDictOf (PySem.intKind PySem.Challenge.rw_gb0003_01.row.prog w) [] → Q (.ref l) { s with heap := h', toks := tk' }) :
    wpAny (model PySem.Challenge.rw_gb0003_01.row.prog w) (ktrTop dp un gd cn cs L a ccd cl outer) (call (.ref f) args) Q E s := by
  refine C p loose mean mg mb dp un gd cn cs a ccd cl outer A₀ base h₀ L m rest q r c d o u s Q E B F X (S.eq ▸ N) T hk C1 C2 tab (off_of (S.eq ▸ N) tab nf) arg hdp hun ?_
  rintro v new q' r' c' d' o' u' h' tk' F' N' tab' off' ap' ⟨l, D, od, t1, t2, t3, t4, rfl, rfl, i1, i2, i3, i4⟩
  exact ret l D od t1 t2 t3 t4 q' r' c' d' o' u' h' tk' F' N' tab' off' (.mk (ap' _ (.head _))) (.mk (ap' _ (.tail _ (.head _)))) i4 i1 i2 i3
end
end
section
theorem lawA : ∀ n, n < 19 → v2f 62 (facI n) = (n : Int) - (figs (n : Int) 1).sum := by decide +kernel
/-- what the walk needs of the two counts -/
theorem lawB1 : ∀ x, x < 10 → ∀ y, y < 10 → 0 < facI x * facI y ∧ facI x * facI y < 2 ^ 62 ∧ facI (x + y) % (facI x * facI y) = 0 ∧ 0 < facI (x + y) / (facI x * facI y) ∧ facI (x + y) / (facI x * facI y) < 2 ^ 62 := by decide +kernel
theorem lawB2 : ∀ x, x < 10 → ∀ y, y < 10 → v2f 62 (facI (x + y) / (facI x * facI y)) = (figs (y : Int) 1).sum + (figs (x : Int) 1).sum - (figs ((x + y : Nat) : Int) 1).sum := by decide +kernel
theorem lawB3 : ∀ x, x < 10 → ∀ y, y < 10 → v2f 62 (facI (x + y) / (facI x * facI y)) = v2f 62 (facI (x + y)) - (v2f 62 (facI y) + v2f 62 (facI x)) := by decide +kernel
theorem lawB4 : ∀ x, x < 10 → ∀ y, y < 10 → v2f 62 (facI (x + y) / (facI x * facI y)) = (carS (figs (x : Int) 1 ++ nils) (figs (y : Int) 1 ++ nils) 6).2 := by decide +kernel
/-- the row of ways -/
def pas : Nat → List Int
  | 0 => [1]
  | n + 1 => [1] ++ (List.range (pas n).length).tail.map (fun j => (pas n).getD (j - 1) 0 + (pas n).getD j 0) ++ [1]
theorem lawC : ∀ x, x < 10 → (((pas x).filter (fun v => v % 2 = 1)).length : Int) = 2 ^ ((figs (x : Int) 1).sum).toNat ∧ (pas x).length = x + 1 ∧ (∀ v ∈ pas x, 0 ≤ v ∧ v < 1000) ∧ 0 ≤ (figs (x : Int) 1).sum ∧ (figs (x : Int) 1).sum ≤ 4 := by decide +kernel
theorem lawD : ∀ x, x < 10 → ∀ y, y < 10 → (v2f 62 (facI (x + y) / (facI x * facI y)) = 0 ↔ (List.range 6).filter (fun k => decide ((figs (x : Int) 1 ++ nils).getD k 0 = (figs (y : Int) 1 ++ nils).getD k 0) && decide ((figs (y : Int) 1 ++ nils).getD k 0 = 1)) = []) := by decide +kernel
end
section
open PyProof.Rows.LCg PyProof.Rows.LCt
section
variable {prog : Program} {w : World} {A : Around} {E : Value → Shared → Prop} {s : Shared} {h₀ : Heap} {L : Addr} {m : Str → Option Value} {env : Env}
theorem forget {α : Type} {M : Model} {t : Sem α} {Q : α → Shared → Prop} {news : List (Addr × Obj)} (F : Fr h₀ L s.heap m) (N : News h₀ L s.heap news)
    (h : ∀ hh tk, Fr h₀ L hh m → News h₀ L hh news → wpAny M A t Q E { s with heap := hh, toks := tk }) : wpAny M A t Q E s := h s.heap s.toks F N
theorem CompEnd.imp {I C D : Addr} {oI oC oD : Obj} {S : List (Addr × Obj) → Prop} {r r' : Value → List (Addr × Obj) → Prop} {y : Value} {s₂ : Shared} (h : CompEnd h₀ L m s I oI C oC D oD S r y s₂) (k : ∀ news', r y news' → r' y news') : CompEnd h₀ L m s I oI C oC D oD S r' y s₂ := by
  obtain ⟨h', tk, news', a, b, c, d, e, f⟩ := h
  exact ⟨h', tk, news', a, b, c, d, e, k _ f⟩
/-- a comprehension with a test, by an invariant -/
theorem restT {ct elt : Expr} {x : Str} {scope : Scope} {cl : List (Str × Addr)} {S : List (Addr × Obj) → Prop} {P : Nat → Value → Prop} {Fin : List Value → List (Addr × Obj) → Prop} {n : Nat} (Inv : Nat → List Value → List (Addr × Obj) → Prop)
    (hfin : ∀ ys news, Inv n ys news → Fin ys news)
    (step : ∀ i ys news, i < n → Inv i ys news → ∀ v I oI C oC D m₂ h tk (E' : Value → Shared → Prop), P i v → NsObj oC m₂ → m₂ x = some v → Fr h₀ L h m → News h₀ L h ((I, oI) :: (C, oC) :: (D, lst ys) :: news) → Off3 I C D news → ((@Ne Nat I C) ∧ (@Ne Nat I D) ∧ (@Ne Nat C D)) →
      wpAny (model prog w) A (isTrue ct (compEnvC scope cl C env) (eval ct (compEnvC scope cl C env))) (fun ok s' => if ok = true then
        wpAny (model prog w) A (eval elt (compEnvC scope cl C env)) (CompEnd h₀ L m { s with heap := h, toks := tk } I oI C oC D (lst ys) S (fun y news' => Inv (i + 1) (ys ++ [y]) news')) E' s'
        else CompEnd h₀ L m { s with heap := h, toks := tk } I oI C oC D (lst ys) S (fun _ news' => Inv (i + 1) ys news') Value.none s') E' { s with heap := h, toks := tk }) :
    ∀ k i ys news, i + k = n → Inv i ys news → CompRestT prog w A h₀ L m env ct elt x scope cl s S P Fin k i ys news := by
  intro k
  induction k with
  | zero =>
    intro i ys news hi hJ
    have : i = n := by omega
    subst this
    exact CompRestT.zero (hfin ys news hJ)
  | succ k ih =>
    intro i ys news hi hJ
    refine CompRestT.succ fun v I oI C oC D m₂ h tk E' hP hC hm F N off ne => ?_
    refine wpAny_mono (step i ys news (by omega) hJ v I oI C oC D m₂ h tk E' hP hC hm F N off ne) (fun ok s' hs' => ?_) fun _ _ e => e
    cases ok with
    | true =>
      simp only [if_true] at hs' ⊢
      exact wpAny_mono hs' (fun y s'' hy => CompEnd.imp hy fun news' hn => ih (i + 1) _ news' (by omega) hn) fun _ _ e => e
    | false =>
      simp only [Bool.false_eq_true, if_false] at hs' ⊢
      exact CompEnd.imp hs' fun news' hn => ih (i + 1) _ news' (by omega) hn
/-- a comprehension without a test, by an invariant -/
theorem restU {elt : Expr} {x : Str} {scope : Scope} {cl : List (Str × Addr)} {S : List (Addr × Obj) → Prop} {P : Nat → Value → Prop} {Fin : List Value → List (Addr × Obj) → Prop} {n : Nat} (Inv : Nat → List Value → List (Addr × Obj) → Prop)
    (hfin : ∀ ys news, Inv n ys news → Fin ys news)
    (step : ∀ i ys news, i < n → Inv i ys news → ∀ v I oI C oC D m₂ h tk (E' : Value → Shared → Prop), P i v → NsObj oC m₂ → m₂ x = some v → Fr h₀ L h m → News h₀ L h ((I, oI) :: (C, oC) :: (D, lst ys) :: news) → Off3 I C D news → ((@Ne Nat I C) ∧ (@Ne Nat I D) ∧ (@Ne Nat C D)) →
      wpAny (model prog w) A (eval elt (compEnvC scope cl C env)) (CompEnd h₀ L m { s with heap := h, toks := tk } I oI C oC D (lst ys) S (fun y news' => Inv (i + 1) (ys ++ [y]) news')) E' { s with heap := h, toks := tk }) :
    ∀ k i ys news, i + k = n → Inv i ys news → CompRest prog w A h₀ L m env elt x scope cl s S P Fin k i ys news := by
  intro k
  induction k with
  | zero =>
    intro i ys news hi hJ
    have : i = n := by omega
    subst this
    exact CompRest.zero (hfin ys news hJ)
  | succ k ih =>
    intro i ys news hi hJ
    refine CompRest.succ fun v I oI C oC D m₂ h tk E' hP hC hm F N off ne => ?_
    exact wpAny_mono (step i ys news (by omega) hJ v I oI C oC D m₂ h tk E' hP hC hm F N off ne) (fun y s' hy => CompEnd.imp hy fun news' hn => ih (i + 1) _ news' (by omega) hn) fun _ _ e => e
end
end
section
def ksOf (A B : List Int) (i : Nat) : List Int := ((List.range i).filter (fun k => decide (A.getD k 0 = B.getD k 0) && decide (B.getD k 0 = 1))).map Int.ofNat
def Inv1 (A B : List Int) (led : List (Addr × Obj)) (i : Nat) (ys : List Value) (news : List (Addr × Obj)) : Prop := IntsAre ys (ksOf A B i) ∧ news = led
section
variable {A B : List Int} {led led' : List (Addr × Obj)} {i : Nat} {ys : List Value} {t : Tok}
theorem inv1_yes (iv : IntsAre ys (ksOf A B i)) (e1 : A.getD (0 + (i : Int)).toNat 0 = B.getD (0 + (i : Int)).toNat 0) (e2 : B.getD (0 + (i : Int)).toNat 0 = 1) (el : led' = led) : Inv1 A B led (i + 1) (ys ++ [Value.int (0 + (i : Int)) t]) led' := by
  refine ⟨?_, el⟩
  have h : (0 + (i : Int)).toNat = i := by omega
  have h2 : (0 + (i : Int)) = Int.ofNat i := by simp
  rw [h] at e1 e2
  have : ksOf A B (i + 1) = ksOf A B i ++ [Int.ofNat i] := by
    unfold ksOf
    rw [List.range_succ, List.filter_append, List.map_append]
    have : [i].filter (fun k => decide (A.getD k 0 = B.getD k 0) && decide (B.getD k 0 = 1)) = [i] := by
      rw [List.filter_cons_of_pos (by rw [e1, e2]; rfl)]; rfl
    rw [this]; rfl
  rw [this, h2]
  exact ints_snoc iv
theorem inv1_no (iv : IntsAre ys (ksOf A B i)) (e : A.getD (0 + (i : Int)).toNat 0 ≠ B.getD (0 + (i : Int)).toNat 0 ∨ B.getD (0 + (i : Int)).toNat 0 ≠ 1) (el : led' = led) : Inv1 A B led (i + 1) ys led' := by
  refine ⟨?_, el⟩
  have h : (0 + (i : Int)).toNat = i := by omega
  rw [h] at e
  have : ksOf A B (i + 1) = ksOf A B i := by
    unfold ksOf
    rw [List.range_succ, List.filter_append, List.map_append]
    have : [i].filter (fun k => decide (A.getD k 0 = B.getD k 0) && decide (B.getD k 0 = 1)) = [] := by
      rw [List.filter_cons_of_neg (by
        rw [Bool.and_eq_true, decide_eq_true_iff, decide_eq_true_iff]
        rintro ⟨a, b⟩
        rcases e with e | e
        · exact e a
        · exact e b)]; rfl
    rw [this]; simp
  rw [this]
  exact iv
theorem ksOf_nil : ksOf A B i = [] ↔ (List.range i).filter (fun k => decide (A.getD k 0 = B.getD k 0) && decide (B.getD k 0 = 1)) = [] := by
  unfold ksOf
  rw [List.map_eq_nil_iff]
theorem lawD_no {a : Int} {K : List Int} (h : a = 0 ↔ K = []) (e : ((a == 0) != decide (K = [])) = true) : False := by
  by_cases hk : K = []
  · rw [h.mpr hk, hk] at e
    simp at e
  · have ha : ¬ a = 0 := fun x => hk (h.mp x)
    simp [ha, hk] at e
end
theorem off1_mem {D : Addr} {l : List (Addr × Obj)} (h : LCg.Off1 D l) : ∀ y ∈ l, @Ne Nat y.1 D := by
  induction l with
  | nil => intro y hy; cases hy
  | cons p r ih =>
    intro y hy
    rcases List.mem_cons.mp hy with e | hy
    · rw [e]; exact h.1
    · exact ih h.2 y hy
theorem apart_off1 {D : Addr} {l : List (Addr × Obj)} (h : LCg.Off1 D l) : Apart D l := .mk fun y hy => (off1_mem h y hy).symm
theorem off3_sub {I C D : Addr} {l l' : List (Addr × Obj)} (h : LCg.Off3 I C D l) (k : ∀ p ∈ l', p ∈ l) : LCg.Off3 I C D l' := by
  induction l' with
  | nil => exact True.intro
  | cons p r ih => exact ⟨h.mem p (k p (.head _)), ih fun y hy => k y (.tail _ hy)⟩
theorem off_three {I C D c d : Addr} {oI oC oD o u : Obj} {q r : Array Value} {rest : List (Addr × Obj)} (h : LCg.Off3 I C D (rest ++ T4 q r c d o u)) (k : Off rest c d) : Off ((I, oI) :: (C, oC) :: (D, oD) :: rest) c d := .mk fun x hx => by
  have m1 := h.mem (37, tabObj q) (List.mem_append_right _ (.head _))
  have m2 := h.mem (30, tabObj r) (List.mem_append_right _ (.tail _ (.head _)))
  have m3 := h.mem (c, o) (List.mem_append_right _ (.tail _ (.tail _ (.head _))))
  have m4 := h.mem (d, u) (List.mem_append_right _ (.tail _ (.tail _ (.tail _ (.head _)))))
  rcases List.mem_cons.mp hx with rfl | hx
  · exact ⟨m1.1.symm, m2.1.symm, m3.1.symm, m4.1.symm⟩
  · rcases List.mem_cons.mp hx with rfl | hx
    · exact ⟨m1.2.1.symm, m2.2.1.symm, m3.2.1.symm, m4.2.1.symm⟩
    · rcases List.mem_cons.mp hx with rfl | hx
      · exact ⟨m1.2.2.symm, m2.2.2.symm, m3.2.2.symm, m4.2.2.symm⟩
      · exact k.all x hx
/-- the sums of neighbours -/
def nbs (p : List Int) (i : Nat) : List Int := (List.range i).map (fun j => p.getD j 0 + p.getD (j + 1) 0)
def Inv3 (p : List Int) (led : List (Addr × Obj)) (i : Nat) (ys : List Value) (news : List (Addr × Obj)) : Prop := IntsAre ys (nbs p i) ∧ news = led
theorem inv3_step {p : List Int} {led led' : List (Addr × Obj)} {i : Nat} {ys : List Value} {t : Tok} {a : Int} (iv : IntsAre ys (nbs p i)) (el : led' = led) (ea : a = p.getD i 0 + p.getD (i + 1) 0) : Inv3 p led (i + 1) (ys ++ [.int a t]) led' := by
  refine ⟨?_, el⟩
  have : nbs p (i + 1) = nbs p i ++ [a] := by
    unfold nbs
    rw [List.range_succ, List.map_append, ea]; rfl
  rw [this]
  exact ints_snoc iv
theorem pas_next (k n : Nat) (h : (pas k).length = n + 1) : pas (k + 1) = [1] ++ nbs (pas k) n ++ [1] := by
  show [1] ++ (List.range (pas k).length).tail.map (fun j => (pas k).getD (j - 1) 0 + (pas k).getD j 0) ++ [1] = _
  rw [h, List.range_succ_eq_map]
  unfold nbs
  simp only [List.tail_cons, List.map_map]
  rfl
theorem nbs_len (p : List Int) (n : Nat) : (nbs p n).length = n := by unfold nbs; simp
def odds (p : List Int) (i : Nat) : List Int := (p.take i).filter (fun v => v % 2 = 1)
def Inv2 (p : List Int) (led : List (Addr × Obj) → List (Addr × Obj)) (i : Nat) (ys : List Value) (news : List (Addr × Obj)) : Prop :=
  ∃ (q r : Array Value) (c d : Addr) (o u : Obj), IntsAre ys (odds p i) ∧ Tab q r c d o u ∧ ∀ p ∈ led (T4 q r c d o u), p ∈ news
theorem odds_yes {p : List Int} {i : Nat} {ys : List Value} {t : Tok} {a : Int} (iv : IntsAre ys (odds p i)) (ea : p[i]? = some a) (h : a % 2 = 1) : IntsAre (ys ++ [.int a t]) (odds p (i + 1)) := by
  have : odds p (i + 1) = odds p i ++ [a] := by
    unfold odds
    rw [List.take_add_one, ea, List.filter_append]
    simp [h]
  rw [this]
  exact ints_snoc iv
theorem odds_no {p : List Int} {i : Nat} {ys : List Value} {a : Int} (iv : IntsAre ys (odds p i)) (ea : p[i]? = some a) (h : a % 2 ≠ 1) : IntsAre ys (odds p (i + 1)) := by
  have : odds p (i + 1) = odds p i := by
    unfold odds
    rw [List.take_add_one, ea, List.filter_append]
    simp [h]
  rw [this]
  exact iv
theorem ints_at {vs : List Value} {ns : List Int} (h : IntsAre vs ns) {i : Nat} {v : Value} (e : vs.toArray[i]? = some v) : ∃ n t, v = .int n t ∧ ns[i]? = some n := by
  rw [List.getElem?_toArray] at e
  have hi : i < ns.length := by
    rw [← h.length]
    exact (List.getElem?_eq_some_iff.mp e).1
  obtain ⟨t, ht⟩ := h.get i ns[i] (by simp [hi])
  rw [e] at ht
  exact ⟨_, t, Option.some.inj ht, by simp [hi]⟩
theorem pas_len_le (k : Nat) (h : k < 10) : (pas k).length = k + 1 := (lawC k h).2.1
theorem ints_pas {k : Nat} {ws : List Value} (h : (pas k).length = k + 1) (iv : IntsAre ws ([1] ++ nbs (pas k) k ++ [1])) : IntsAre ws (pas (k + 1)) := by
  rw [pas_next k k h]; exact iv
theorem odds_all {p : List Int} {n : Nat} (h : p.length = n) : odds p n = p.filter (fun v => v % 2 = 1) := by
  unfold odds
  rw [List.take_of_length_le (by omega)]
theorem odds_len {p : List Int} {n m : Nat} (h : p.length ≤ m) : (odds p n).length ≤ m := by
  unfold odds
  have h1 := List.length_filter_le (fun v : Int => decide (v % 2 = 1)) (p.take n)
  have h2 : (p.take n).length ≤ p.length := List.length_take_le' n p
  omega
section
variable {prog : Program} {w : World} {A : Around} {E : Value → Shared → Prop} {s : Shared} {h₀ : Heap} {L : Addr}
theorem len_ints {news : List (Addr × Obj)} {l : Addr} {us : List Value} {ns : List Int} {n : Nat} {Q : Value → Shared → Prop} (N : News h₀ L s.heap news) (hm : (l, listOf us.toArray n) ∈ news) (hd : IntsAre us ns) (hfit : ns.length ≤ 1000)
    (h : Q (.int (ns.length : Int) (s.toks + 1)) { s with toks := s.toks + 1 + 1 }) : wpAny (model prog w) A (call (.builtin "len") [.ref l]) Q E s := by
  have hl : s.heap.IsList l us.toArray := ⟨_, (N _ hm).1, rfl, n, rfl⟩
  have e : us.toArray.size = ns.length := by rw [List.size_toArray, hd.length]
  exact len_list hl (by rw [e]; omega) (by rw [e]; exact h)
end
/-- the row, built -/
def JRow (A : Addr) (x : Nat) (led : List (Addr × Obj)) (k : Nat) (m : Str → Option Value) (news : List (Addr × Obj)) : Prop :=
  ∃ (oA : Obj) (l : Addr) (vs : List Value) (tx : Tok), oA.data = .cell (some (.ref l)) ∧ IntsAre vs (pas k) ∧ Ap l A ∧ m (Str.ofString "one") = some (.int (x : Int) tx) ∧ news = (l, listOf vs.toArray 0) :: (A, oA) :: led
end
section
theorem fresh9 : True := by
  w_top off
  first | walk1 | trivial
theorem fillL : (fun (_ : OpenLaw) (_ : Params → Frag) => True) PySem.Challenge.rw_gb0003_01 hd.heap_39 := by
  k_fill
  trivial
local macro_rules | `(tactic| walk_at "mine noF") => `(tactic| (repeat (first | exact noF_nil | (refine noF_cons ?_ ?_; first | (with_reducible assumption) | exact noF_cell (by with_reducible assumption) | exact noF_dict (by with_reducible assumption) | (intro _ h; cases h)))))
local macro_rules | `(tactic| k_ne) => `(tactic| (refine neN ?_; (try dsimp only); first
  | exact Ap.ne (by with_reducible assumption)
  | exact (Ap.ne (by with_reducible assumption)).symm
  | exact Apart.ne (by with_reducible assumption) (by k_mem)
  | exact (Apart.ne (by with_reducible assumption) (by k_mem)).symm
  | exact Off.nc (by with_reducible assumption) (by k_mem)
  | exact (Off.nc (by with_reducible assumption) (by k_mem)).symm
  | exact Off.nd (by with_reducible assumption) (by k_mem)
  | exact (Off.nd (by with_reducible assumption) (by k_mem)).symm
  | exact Off.n37 (by with_reducible assumption) (by k_mem)
  | exact (Off.n37 (by with_reducible assumption) (by k_mem)).symm
  | exact Off.n30 (by with_reducible assumption) (by k_mem)
  | exact (Off.n30 (by with_reducible assumption) (by k_mem)).symm
  | fail "mine k_ne"))
local macro_rules | `(tactic| k_all) => `(tactic| first | exact List.forall_mem_nil _ | (refine' List.forall_mem_cons.mpr ⟨?a, ?b⟩; (case a => k_ne); (case b => k_all)))
local macro_rules | `(tactic| walk_at "mine use") => `(tactic| (
  (case zB => k_asm); (case zF => k_asm); (case zX => k_asm); (case zN => k_asm); (case zS => walk_at "mine spl"); (case zT => k_asm); (case zk => first | exact rfl | assumption); (case zC1 => k_asm); (case zC2 => k_asm); (case zt => assumption); (case zf => walk_at "mine noF"); (case za => first | trivial | k_mem); (case zd => first | decide | exact Nat.le_of_ble_eq_true rfl | ((try simp only [depth_deeper]); omega)); (case zu => first | decide | exact Nat.le_of_ble_eq_true rfl | ((try simp only [units_deeper]); omega))))
local macro_rules | `(tactic| walk_at "exec While Compare cons nil") => `(tactic| refine Held.out ?_)
local macro_rules | `(tactic| walk_at "pyIter ref") => `(tactic| refine Held.out ?_)
local macro_rules | `(tactic| walk_at "call ref") => `(tactic| (
  k_here; k_dflt (refine' Con.useL (con_int2digits _ _ _ _ _ ?a1 ?a2 ?a3 ?a4) ?zB ?zF ?zX ?zN ?zS ?zT ?zk ?zC1 ?zC2 ?zt ?zf ?za ?zd ?zu ?_; (case a1 => omega); (case a2 => omega); (case a3 => omega); (case a4 => omega); walk_at "mine use")
  intro l' vs' n' q' r' c' d' o' u' h' tk' F' N' tab' off' ap' iv'; (try simp only [List.cons_append, List.nil_append] at N' off' ap'); (try k_sweep); (try dsimp only); (try k_fold)))
local macro_rules | `(tactic| walk_at "call ref") => `(tactic| (
  k_here; k_dflt (refine' Con.useI (con_product _ _ _ ?a1) ?zB ?zF ?zX ?zN ?zS ?zT ?zk ?zC1 ?zC2 ?zt ?zf ?za ?zd ?zu ?_; (case a1 => omega); walk_at "mine use")
  intro t' q' r' c' d' o' u' h' tk' F' N' tab' off'; (try simp only [List.cons_append, List.nil_append] at N' off'); (try k_sweep); (try dsimp only); (try k_fold)))
local macro_rules | `(tactic| walk_at "call ref") => `(tactic| (
  k_here; k_dflt (refine' Con.useI (con_often _ _ _ ?a1 ?a2) ?zB ?zF ?zX ?zN ?zS ?zT ?zk ?zC1 ?zC2 ?zt ?zf ?za ?zd ?zu ?_; (case a1 => first | assumption | omega); (case a2 => first | assumption | omega); walk_at "mine use")
  intro t' q' r' c' d' o' u' h' tk' F' N' tab' off'; (try simp only [List.cons_append, List.nil_append] at N' off'); (try k_sweep); (try dsimp only); (try k_fold)))
section
variable {prog : Program} {w : World} {A : Around} {E : Value → Shared → Prop} {s : Shared} {a b c : Int} {t u : Tok} {Q : Value → Shared → Prop}
theorem add_by (e : a + b = c) (h : Q (.int c s.toks) { s with toks := s.toks + 1 }) : wpAny (model prog w) A (binaryOp .Add (.int a t) (.int b u)) Q E s := by
  subst e
  exact PyProof.Rows.add_int h
theorem mod_by (e : a.fmod b = c) (hb : b ≠ 0) (h : Q (.int c s.toks) { s with toks := s.toks + 1 }) : wpAny (model prog w) A (binaryOp .Mod (.int a t) (.int b u)) Q E s := by
  subst e
  exact PyProof.Rows.mod_int' hb h
end
theorem ints_get {vs : List Value} {ns : List Int} (h : IntsAre vs ns) {i : Nat} {v : Value} (e : vs[i]? = some v) : ∃ n t, v = .int n t := by
  have hi : i < ns.length := by
    rw [← h.length]
    exact (List.getElem?_eq_some_iff.mp e).1
  obtain ⟨t, ht⟩ := h.get i ns[i] (by simp [hi])
  rw [e] at ht
  exact ⟨_, t, Option.some.inj ht⟩
local macro_rules | `(tactic| walk_at "binaryOp Add int int") => `(tactic| (refine add_by (by assumption) ?_))
local macro_rules | `(tactic| walk_at "binaryOp Mult int int") => `(tactic| (refine mul_by (by assumption) (by assumption) ?_))
local macro_rules | `(tactic| walk_at "binaryOp Mod int int") => `(tactic| (refine mod_by (by assumption) (by decide) ?_))
local macro_rules | `(tactic| walk_at "exec For") => `(tactic| (k_here; (rename Fr _ _ _ _ => lF'); (with_unfolding_all refine' For_invVF lF' ?k1 ?k2 ?_; (case k1 => exact rfl); (case k2 => exact rfl); k_whole)))
local macro_rules | `(tactic| walk_at "exec For Name Subscript cons nil") => `(tactic| (k_here; (rename Fr _ _ _ _ => lF'); (with_unfolding_all refine' For_invVF lF' ?k1 ?k2 ?_; (case k1 => exact rfl); (case k2 => exact rfl); k_whole)))
local macro_rules | `(tactic| walk_at "exec For Name List cons nil") => `(tactic| (k_here; (rename Fr _ _ _ _ => lF'); (with_unfolding_all refine' For_invVF lF' ?k1 ?k2 ?_; (case k1 => exact rfl); (case k2 => exact rfl); k_whole)))
local macro_rules | `(tactic| walk_at "exec For Name Call cons nil") => `(tactic| (k_here; (rename Fr _ _ _ _ => lF'); (with_unfolding_all refine' For_invVF lF' ?k1 ?k2 ?_; (case k1 => exact rfl); (case k2 => exact rfl); k_whole)))
local macro_rules | `(tactic| walk_at "call ref") => `(tactic| (
  k_here; k_dflt (refine' Con.useT (con_told _ _ _ ?a1) ?zB ?zF ?zX ?zN ?zS ?zT ?zk ?zC1 ?zC2 ?zt ?zf ?za ?zd ?zu ?_; (case a1 => omega); walk_at "mine use")
  intro l' D' od' t1' t2' t3' t4' q' r' c' d' o' u' h' tk' F' N' tab' off' ap1' ap2' ap3' lo' is1' is2'; (try simp only [List.cons_append, List.nil_append] at N' off' ap1' ap2'); (try k_sweep); (try dsimp only); (try k_fold)))
local macro_rules | `(tactic| walk_at "call ref") => `(tactic| (
  k_here; k_dflt (refine' Con.useI (con_carries _ _ _ _ _ ?a1 ?a2 ?a3 ?a4) ?zB ?zF ?zX ?zN ?zS ?zT ?zk ?zC1 ?zC2 ?zt ?zf ?za ?zd ?zu ?_; (case a1 => omega); (case a2 => omega); (case a3 => omega); (case a4 => omega); walk_at "mine use")
  intro t' q' r' c' d' o' u' h' tk' F' N' tab' off'; (try simp only [List.cons_append, List.nil_append] at N' off'); (try k_sweep); (try dsimp only); (try k_fold)))
local macro_rules | `(tactic| walk_at "call ref") => `(tactic| (
  k_here; k_dflt (refine' Con.use2 (con_int_divmod _ _ _ _ _ ?a1 ?a2 ?a3 ?a4) ?zB ?zF ?zX ?zN ?zS ?zT ?zk ?zC1 ?zC2 ?zt ?zf ?za ?zd ?zu ?_; (case a1 => first | assumption | omega); (case a2 => first | assumption | omega); (case a3 => first | assumption | omega); (case a4 => first | assumption | omega); walk_at "mine use")
  intro l' t1' t2' q' r' c' d' o' u' h' tk' F' N' tab' off' ap'; (try simp only [List.cons_append, List.nil_append] at N' off' ap'); (try k_sweep); (try dsimp only); (try k_fold)))
local macro_rules | `(tactic| walk_at "binaryOp Add ref ref") => `(tactic| (
  k_here; k_dflt (refine' kmk_add_ints (ms := nils) ?zF ?zN ?za ?zb ?zi ?zj ?_ ?zz; (case zF => k_asm); (case zN => k_asm); (case za => exact News.isList (by k_asm) (by k_mem)); (case zb => exact News.isList (by k_asm) (by k_mem)); (case zi => assumption); (case zj => assumption); (case zz => (rw [sizeLine_eq, show nils.length = 6 from rfl]; omega)))
  intro D' ws' h' F' N' l1 hI'; (try k_lt l1); (try k_sweep); (try dsimp only)))
local macro_rules | `(tactic| walk_at "call ref") => `(tactic| (
  k_here; k_dflt (refine' Con.use2o (con_int_divmod _ _ _ _ _ ?a1 ?a2 ?a3 ?a4) ?zB ?zF ?zX ?zN ?zS ?zT ?zk ?zC1 ?zC2 ?zt ?zf ?za ?zd ?zu ?_; (case a1 => first | assumption | omega); (case a2 => first | assumption | omega); (case a3 => first | assumption | omega); (case a4 => first | assumption | omega); (case zB => k_asm); (case zF => k_asm); (case zX => k_asm); (case zN => k_asm); (case zS => walk_at "mine spl"); (case zT => k_asm); (case zk => first | exact rfl | assumption); (case zC1 => k_asm); (case zC2 => k_asm); (case zt => assumption); (case zf => with_reducible assumption); (case za => trivial); (case zd => first | decide | exact Nat.le_of_ble_eq_true rfl | ((try simp only [depth_deeper]); omega)); (case zu => first | decide | exact Nat.le_of_ble_eq_true rfl | ((try simp only [units_deeper]); omega)))
  intro l' t1' t2' q' r' c' d' o' u' h' tk' F' N' tab' off' ap'; (try simp only [List.cons_append, List.nil_append] at N' off' ap'); (try k_sweep); (try dsimp only); (try k_fold)))
local macro_rules | `(tactic| walk_at "binaryOp Add ref ref") => `(tactic| (
  k_here; k_dflt (refine' kmk_add_ints ?zF ?zN ?za ?zb ?zi ?zj ?_ ?zz; (case zF => k_asm); (case zN => k_asm); (case za => exact News.isList (by k_asm) (by k_mem)); (case zb => exact News.isList (by k_asm) (by k_mem)); (case zi => first | with_reducible assumption | exact .cons _ _ .nil); (case zj => first | with_reducible assumption | exact .cons _ _ .nil); (case zz => (rw [sizeLine_eq]; simp only [List.length_append, nbs_len, List.length_cons, List.length_nil]; omega)))
  intro D' ws' h' F' N' l1 hI'; (try k_lt l1); (try k_sweep); (try dsimp only)))
local macro_rules | `(tactic| walk_at "call builtin:len") => `(tactic| (k_here; (with_reducible show wpAny _ _ (call (Value.builtin "len") [Value.ref _]) _ _ _); k_dflt (refine' len_ints ?k1 ?k2 ?k3 ?k4 ?_; (case k1 => k_asm); (case k2 => k_mem); (case k3 => with_reducible assumption); (case k4 => omega))))
local macro_rules | `(tactic| walk_at "eval ListComp") => `(tactic| refine Held.out ?_)
local macro_rules | `(tactic| walk_at "exec Assign cons ListComp") => `(tactic| refine Held.out ?_)
local macro_rules | `(tactic| walk_at "CompSrcT") => `(tactic| refine Held.out ?_)
local macro_rules | `(tactic| walk_at "CompSrc") => `(tactic| refine Held.out ?_)
local macro_rules | `(tactic| walk_at "subscriptTail") => `(tactic| (k_here; (with_reducible show wpAny _ _ (subscriptTail _ _ (Value.ref _) (Value.int _ _)) _ _ _); k_dflt (refine' ksa_sub ?k1 ?k2 ?k3 ?k4 ?k5 ?k6 ?_ ?k7; (case k1 => k_asm); (case k2 => k_mem); (case k3 => with_reducible assumption); (case k4 => omega); (case k5 => omega); (case k6 => omega); (case k7 => with_unfolding_all rfl); k_whole); intro _))
local macro_rules | `(tactic| walk_at "mine pick") => `(tactic| first | exact News.nil | (refine News.put (by k_asm) (by k_mem) ?_; walk_at "mine pick"))
theorem off3_I {I C D : Addr} {l : List (Addr × Obj)} {a : Nat} {o : Obj} (h : LCg.Off3 I C D l) (m : ((a : Addr), o) ∈ l) : @Ne Nat a I := (h.mem _ m).1
theorem off3_C {I C D : Addr} {l : List (Addr × Obj)} {a : Nat} {o : Obj} (h : LCg.Off3 I C D l) (m : ((a : Addr), o) ∈ l) : @Ne Nat a C := (h.mem _ m).2.1
theorem off3_D {I C D : Addr} {l : List (Addr × Obj)} {a : Nat} {o : Obj} (h : LCg.Off3 I C D l) (m : ((a : Addr), o) ∈ l) : @Ne Nat a D := (h.mem _ m).2.2
local macro_rules | `(tactic| k_ne) => `(tactic| (refine neN ?_; (try dsimp only); first
  | exact off3_I (by with_reducible assumption) (by k_mem)
  | exact off3_C (by with_reducible assumption) (by k_mem)
  | exact off3_D (by with_reducible assumption) (by k_mem)
  | fail "mine k_ne3"))
def JCnt (x y : Nat) (led : List (Addr × Obj) → List (Addr × Obj)) (_ : Nat) (m : Str → Option Value) (news : List (Addr × Obj)) : Prop :=
  ∃ (tx ty : Tok) (q r : Array Value) (c d : Addr) (o u : Obj), m (Str.ofString "one") = some (.int (x : Int) tx) ∧ m (Str.ofString "other") = some (.int (y : Int) ty) ∧ news = led (T4 q r c d o u) ∧ Tab q r c d o u
theorem three_get {a b c : Nat} {t1 t2 t3 : Tok} {i : Nat} {v : Value} (e : [Value.int (a : Int) t1, Value.int (b : Int) t2, Value.int (c : Int) t3][i]? = some v) (ha : a ≤ 18) (hb : b ≤ 18) (hc : c ≤ 18) : ∃ (n : Nat) (t : Tok), n ≤ 18 ∧ v = .int (n : Int) t := by
  match i, e with
  | 0, e => cases e; exact ⟨_, _, ha, rfl⟩
  | 1, e => cases e; exact ⟨_, _, hb, rfl⟩
  | 2, e => cases e; exact ⟨_, _, hc, rfl⟩
  | i + 3, e => simp at e
def JLaw (L : Nat) (l : Addr) (ws : List Value) (n₀ : Nat) (_ : Nat) (_ : Str → Option Value) (news : List (Addr × Obj)) : Prop :=
  ∃ (oA oB oC : Obj) (vA vB vC : Option Value) (q r : Array Value) (c d : Addr) (o u : Obj), oA.data = .cell vA ∧ oB.data = .cell vB ∧ oC.data = .cell vC ∧
    news = (L + 1 + 1 + 1, oA) :: (L + 1 + 1, oB) :: (L + 1, oC) :: (l, listOf ws.toArray n₀) :: T4 q r c d o u ∧ Tab q r c d o u
theorem law_all : PySem.Challenge.rw_gb0003_01.Holds := hd (by
  k_go0
  all_goals try k_fold
  k_steps
  refine Held.into ?_
  rename Frag.In _ _ => X
  rename Top _ _ _ _ _ _ => T
  rename Below _ _ _ _ => K
  rename News _ _ _ _ => N
  rename Fr _ _ _ _ => F
  rename_i w s0 s1 mg mb G Y fa ob pm cd doc ho hcd hg X1 V1 T1 B1 TE TW wl hs hy0 hL0 hr0 hl2 a1 a2 a3 a4 a5 hL1 ra ww1 r0 hI0 hr1 hc1 hc2 hD h1 tk1 wA wB wC dA dB dC X0 Ca l0 D ws hh hI hC hL hl1
  have C1 : CodeHd (ghostOf s1.heap [(41, 37), (34, 30)]) 41 37 := Ca
  have C2 : CodeHd (ghostOf s1.heap [(41, 37), (34, 30)]) 34 30 := codeHd
  have hN := News.put (a := (_, wA)) N (by k_mem) (News.put (a := (_, wB)) N (by k_mem) (News.put (a := (_, wC)) N (by k_mem) (News.put (a := (D, listOf ws.toArray 0)) N (by k_mem) (News.four (a1 := (37, tabObj #[])) (a2 := (30, tabObj #[])) (a3 := (37, tabObj #[])) (a4 := (30, tabObj #[])) N (by k_mem) (by k_mem) (by k_mem) (by k_mem)))))
  clear N
  k_dflt (refine' iter_list (l := D) (vs := ws) (n₀ := 0) (JLaw s1.heap.objs.size D ws 0) ?zh ?zF ?zN ?keep ?start ?turn ?done; (case zh => exact rfl); (case zF => exact F); (case zN => exact hN))
  case keep =>
    rintro i m' n' ⟨_, _, _, _, _, _, _, _, _, _, _, _, _, _, _, rfl, _⟩
    exact .tail _ (.tail _ (.tail _ (.head _)))
  case start => exact ⟨wA, wB, wC, _, _, _, _, _, _, _, _, _, dA, dB, dC, rfl, .empty, .empty, by decide, by decide⟩
  case turn =>
    clear hN F dA dB dC X0 Y G hcd ho hD X1 V1 T1 B1 TE TW hs hy0 hL0 hr0 hl2 hL1 ra ww1 r0 hI0 hr1 hc1 hc2 hT8 hT9 lifted hC hL Ca codeHd hg
    rintro I i v m₁ news₁ h tk it hi hv ⟨oA, oB, oC, vA, vB, vC, q, r, c, d, o, u, dA, dB, dC, rfl, tab⟩ hoff itF F N
    have hIx := show Apart I _ from .mk fun y hy => (hoff y hy).symm
    clear hoff
    obtain ⟨cell, tc, rfl⟩ := ints_get hI hv
    obtain ⟨x, hx, ex⟩ : ∃ x : Nat, x < 10 ∧ cell.fmod 10 = (x : Int) := ⟨(cell.fmod 10).toNat, by rw [Int.fmod_eq_emod_of_nonneg _ (by decide)]; omega, by rw [Int.fmod_eq_emod_of_nonneg _ (by decide)]; omega⟩
    obtain ⟨y, hy, ey⟩ : ∃ y : Nat, y < 10 ∧ (cell.fdiv 10).fmod 10 = (y : Int) := ⟨((cell.fdiv 10).fmod 10).toNat, by rw [Int.fmod_eq_emod_of_nonneg _ (by decide)]; omega, by rw [Int.fmod_eq_emod_of_nonneg _ (by decide)]; omega⟩
    obtain ⟨z, hz, ez⟩ : ∃ z : Nat, z = x + y ∧ (x : Int) + (y : Int) = (z : Int) := ⟨x + y, rfl, by omega⟩
    replace N : News _ s1.heap.objs.size _ _ := N
    replace F : Fr _ s1.heap.objs.size _ _ := F
    generalize ghostOf s1.heap [(41, 37), (34, 30)] = g at *
    generalize s1.heap.objs.size = L at *
    have off := off_of (rest := [_, _, _, _, _]) N tab (by walk_at "mine noF")
    (try dsimp only); (try k_fold)
    k_steps
    refine Held.into ?_
    rename News _ _ _ _ => N2
    rename Fr _ _ _ _ => F2
    rename_i tk0 Dt _ l1t _ _ _ li _ l1i
    have hz18 : z ≤ 18 := by omega
    have N3 := News.put (a := (li, listOf [Value.int (x : Int) (tk0 + 1), Value.int (y : Int) (tk0 + 1 + 1 + 1 + 1 + 1), Value.int (z : Int) tk].toArray 0)) N2 (by k_mem) (fun p hp => N2 p (List.mem_cons_of_mem _ (List.mem_cons_of_mem _ hp)))
    clear N2 l1t
    k_dflt (refine' iter_list (l := li) (vs := [Value.int (x : Int) (tk0 + 1), Value.int (y : Int) (tk0 + 1 + 1 + 1 + 1 + 1), Value.int (z : Int) tk]) (n₀ := 0) (JCnt x y (fun t => (li, listOf [Value.int (x : Int) (tk0 + 1), Value.int (y : Int) (tk0 + 1 + 1 + 1 + 1 + 1), Value.int (z : Int) tk].toArray 0) :: (I, it) :: (L + 1 + 1 + 1, oA) :: (L + 1 + 1, oB) :: (L + 1, oC) :: (D, listOf ws.toArray 0) :: t)) ?zh2 ?zF2 ?zN2 ?keep2 ?start2 ?turn2 ?done2; (case zh2 => exact rfl); (case zF2 => exact F2); (case zN2 => exact N3))
    case keep2 =>
      rintro i m' n' ⟨_, _, _, _, _, _, _, _, _, _, rfl, _⟩
      exact .head _
    case start2 => exact ⟨_, _, _, _, _, _, _, _, rfl, rfl, rfl, tab⟩
    case turn2 =>
      clear N3 F2
      rintro I2 i2 v2 m2 news2 h2 tk2 it2 hi2 hv2 ⟨tx, ty, q2, r2, c2, d2, o2, u2, e1, e2, rfl, tab2⟩ hoff2 itF2 F5 N5
      dsimp only at N5 hoff2
      have hI2 := show Apart I2 _ from .mk fun y hy => (hoff2 y hy).symm
      clear hoff2
      replace F5 : Fr g L _ _ := F5
      replace N5 : News g L _ _ := N5
      obtain ⟨n, tn, hn, rfl⟩ := three_get hv2 (by omega) (by omega) hz18
      have hA := lawA n (by omega)
      have off2 := off_of (rest := [_, _, _, _, _, _, _]) N5 tab2 (by walk_at "mine noF")
      rw [pin e1, pin e2] at F5
      (try dsimp only); (try k_fold)
      k_steps
      all_goals first | (exfalso; omega) | skip
      rename Fr _ _ _ _ => F8
      dsimp only [TurnPost]
      refine' TurnEnd.intro F8 ?zN4 ?hn4 ⟨_, _, _, _, _, _, _, _, rfl, rfl, rfl, ?tab4⟩
      case tab4 => assumption
      case zN4 => (dsimp only; walk_at "mine pick")
      case hn4 => (dsimp only; k_all)
    case done2 =>
      clear N3 F2
      rintro h2 tk2 m2 news2 ⟨tx, ty, q2, r2, c2, d2, o2, u2, e1, e2, rfl, tab2⟩ F5 N5
      dsimp only at N5
      replace F5 : Fr g L _ _ := F5
      replace N5 : News g L _ _ := N5
      rw [pin e1, pin e2] at F5
      replace N5 := show News g L _ _ from fun p hp => N5 p (List.mem_cons_of_mem _ hp)
      have off2 := off_of (rest := [_, _, _, _, _]) N5 tab2 (by walk_at "mine noF")
      obtain ⟨b1, b2, b3, b4, b5⟩ := lawB1 x hx y hy
      have b6 := lawB2 x hx y hy
      have b7 := lawB3 x hx y hy
      have b8 := lawB4 x hx y hy
      rw [← hz] at b3 b4 b5 b6 b7 b8
      obtain ⟨P, hP⟩ : ∃ P, facI x * facI y = P := ⟨_, rfl⟩
      rw [hP] at b1 b2 b3 b4 b5 b6 b7 b8
      obtain ⟨fx1, fx2⟩ := facI_bounds x (by omega)
      obtain ⟨fz1, fz2⟩ := facI_bounds z (by omega)
      have fz0 : 0 ≤ facI z := by omega
      have hfx := figs_len x (by omega) (by omega)
      have hfy := figs_len y (by omega) (by omega)
      have fxb : Builtin.Int.intBits (facI x) ≤ 64 := by have := bits_le (facI x) (by omega) fx2; omega
      (try dsimp only); (try k_fold)
      k_steps
      all_goals first | (exfalso; omega) | skip
      refine Held.into ?_
      rename News _ _ _ _ => N6
      rename Fr _ _ _ _ => F6
      rename_i la xs _ hI1 _ l2 vs2 n2 qz rz cz dz oz uz _ _ tabz offz apz ivz lz0 _ _ lm0 _ ji1 ji2 ji3 ji4 ji5 ji6 _ lb ys _ hI2 _ lt _ _ _ _ oL dL _ oR dR
      have N7 := show News g L _ ((la, listOf xs.toArray 0) :: (lb, listOf ys.toArray 0) :: (I, it) :: (L + 1 + 1 + 1, oA) :: (L + 1 + 1, oR) :: (L + 1, oL) :: (D, listOf ws.toArray 0) :: T4 qz rz cz dz oz uz) from by walk_at "mine pick"
      clear N6
      refine forget F6 N7 ?_
      clear F6 N7
      intro h3 tk3 F7 N7
      (try dsimp only)
      have hla : (figs (x : Int) 1 ++ nils).length = (figs (x : Int) 1).length + 6 := List.length_append
      have hlb : (figs (y : Int) 1 ++ nils).length = (figs (y : Int) 1).length + 6 := List.length_append
      k_dflt (refine LCt.ListComp_T (F₀ := by k_asm) (by with_unfolding_all rfl) (by decide) (by rfl) (by decide) (by rfl) ?_)
      k_steps
      refine Held.into ?_
      rename_i hr0 hF0 hN0 hk0
      try clear F7
      try clear N7
      obtain ⟨hs1', hs2'⟩ := range_small 0 6 (by omega) (by omega) (by omega)
      have b9 : v2f 62 (facI z / P) = 0 ↔ ksOf (figs (x : Int) 1 ++ nils) (figs (y : Int) 1 ++ nils) (0 + 6) = [] := by
        rw [hz, ← hP]
        exact (lawD x hx y hy).trans ksOf_nil.symm
      generalize figs (x : Int) 1 ++ nils = XA at *
      generalize figs (y : Int) 1 ++ nils = XB at *
      k_dflt (refine' LCt.CompSrcT.range (n := 6) rfl hF0 hN0 hr0 hs1' hs2' (by decide) (fun gg => restT (Inv1 XA XB ((la, listOf xs.toArray 0) :: (lb, listOf ys.toArray 0) :: (I, it) :: (L + 1 + 1 + 1, oA) :: (L + 1 + 1, oR) :: (L + 1, oL) :: (D, listOf ws.toArray 0) :: T4 qz rz cz dz oz uz)) ?fin ?step 6 0 _ _ rfl ⟨.nil, rfl⟩))
      case step =>
        clear hF0 hN0 hr0 hk0
        rintro i3 ys3 news3 hi3 ⟨iv3, rfl⟩ v3 I3 oI3 Cc oCc D3 m3 h4 tk4 E' ⟨t4, rfl⟩ hC3 hm3 F8 N8 off8 ne8
        (try dsimp only)
        k_steps
        · exact inv1_yes iv3 (by assumption) (by assumption) rfl
        · exact inv1_no iv3 (.inr (by assumption)) rfl
        · exact inv1_no iv3 (.inl (by assumption)) rfl
      case fin =>
        clear hF0 hN0 hr0 hk0
        rintro ys3 news3 ⟨iv3, rfl⟩
        intro D3 h4 tk4 F8 N8 off8
        have ap8 := apart_off1 off8
        clear off8
        (try dsimp only)
        k_steps
        · exact (lawD_no b9 (by assumption)).elim
        refine Held.into ?_
        rename_i hr1 hF1 hN1 hk1
        obtain ⟨hs3', hs4'⟩ := range_small 0 x (by omega) (by omega) (by omega)
        obtain ⟨c1, c2, c3, c4, c5⟩ := lawC x hx
        have hN2 := News.put hN1 (.head _) (News.put hN1 (.tail _ (.tail _ (.tail _ (.tail _ (.tail _ (.tail _ (.head _))))))) (News.put (a := (I, it)) hN1 (by k_mem) (News.put (a := (L + 1 + 1, oR)) hN1 (by k_mem) (News.put (a := (L + 1, oL)) hN1 (by k_mem) (News.put (a := (D, listOf ws.toArray 0)) hN1 (by k_mem) (News.four (a1 := (37, tabObj qz)) (a2 := (30, tabObj rz)) (a3 := (cz, oz)) (a4 := (dz, uz)) hN1 (by k_mem) (by k_mem) (by k_mem) (by k_mem)))))))
        k_dflt (refine' iter_range (n := x) (JRow (L + 1 + 1 + 1) x ((I, it) :: (L + 1 + 1, oR) :: (L + 1, oL) :: (D, listOf ws.toArray 0) :: T4 qz rz cz dz oz uz)) rfl hr1 hs3' hs4' hF1 hN2 ?start3 ?turn3 ?done3)
        case start3 =>
          refine ⟨_, _, [_], _, ?_, .cons _ _ .nil, ?_, rfl, rfl⟩
          · with_reducible assumption
          · exact ⟨by k_ne⟩
        case turn3 =>
          clear hN2 hN1 hF1 hr1 hk1
          rintro I4 k4 t4 m4 news4 h5 tk5 it4 hk4 ⟨oX, lr, vs4, tx4, dX, iv4, ap4, e4, rfl⟩ hoff4 itF4 F9 N9
          rw [pin e4] at F9
          have hI4 := show Apart I4 _ from .mk fun y hy => (hoff4 y hy).symm
          clear hoff4
          replace F9 : Fr g L _ _ := F9
          replace N9 : News g L _ _ := N9
          have hl4 := pas_len_le k4 (by omega)
          (try dsimp only)
          (try k_fold)
          k_steps
          refine Held.into ?_
          k_dflt (refine LCg.ListComp_U (F₀ := by k_asm) (by with_unfolding_all rfl) (by decide) (by rfl) (by decide) (by rfl) ?_)
          k_steps
          refine Held.into ?_
          rename_i hr2 hF2 hN2' hk2
          obtain ⟨hs5, hs6⟩ := range_small 1 ((pas k4).length : Int) (by omega) (by omega) (by omega)
          k_dflt (refine' LCg.CompSrc.range (n := k4) rfl hF2 hN2' hr2 hs5 ?hn5 ?hz5 (fun gg => restU (Inv3 (pas k4) _) ?fin5 ?step5 k4 0 _ _ (Nat.zero_add _) ⟨.nil, rfl⟩))
          case hn5 => rw [hs6]; omega
          case hz5 => rw [sizeLine_eq]; omega
          case step5 =>
            clear hF2 hN2' hr2 hk2
            rintro i5 ys5 news5 hi5 ⟨iv5, rfl⟩ v5 I5 oI5 Cc5 oC5 D5 m5 h6 tk6 E' ⟨t5, rfl⟩ hC5 hm5 F10 N10 off10 ne10
            (try dsimp only)
            k_steps
            have e5 : (1 + (i5 : Int) - 1).toNat = i5 := by omega
            have e6 : (1 + (i5 : Int)).toNat = i5 + 1 := by omega
            exact inv3_step iv5 rfl (by rw [e5, e6])
          case fin5 =>
            clear hF2 hN2' hr2 hk2
            rintro ys5 news5 ⟨iv5, rfl⟩
            intro D5 h6 tk6 F10 N10 off10
            have ap10 := apart_off1 off10
            clear off10
            (try dsimp only)
            k_steps
            rename Fr _ _ _ _ => F11
            rename IntsAre _ (_ ++ [1]) => hI6
            rename _ = Data.cell _ => d6
            dsimp only [TurnPost]
            refine' TurnEnd.intro F11 ?zN6 ?hn6 ⟨_, _, _, _, d6, ints_pas hl4 hI6, ?ap6, rfl, rfl⟩
            case ap6 => exact ⟨by k_ne⟩
            case zN6 => ((try dsimp only); walk_at "mine pick")
            case hn6 => ((try dsimp only); k_all)
        case done3 =>
          clear hN2 hN1 hF1 hr1 hk1
          rintro h5 tk5 m4 news4 ⟨oX, lr, vs4, tx4, dX, iv4, ap4, e4, rfl⟩ F9 N9
          rw [pin e4] at F9
          replace F9 : Fr g L _ _ := F9
          replace N9 : News g L _ _ := N9
          have hv4 : vs4.toArray.size = x + 1 := by rw [List.size_toArray, iv4.length, c2]
          have c1' : (((odds (pas x) vs4.toArray.size).length : Nat) : Int) = 2 ^ (figs (x : Int) 1).sum.toNat := by rw [odds_all (by rw [c2, hv4])]; exact c1
          (try dsimp only)
          (try k_fold)
          k_steps
          refine Held.into ?_
          k_dflt (refine LCt.ListComp_T (F₀ := by k_asm) (by with_unfolding_all rfl) (by decide) (by rfl) (by decide) (by rfl) ?_)
          k_steps
          refine Held.into ?_
          k_dflt (refine' LCt.CompSrcT.ledger rfl F9 N9 (List.Mem.head _) ?hz7 (fun gg => restT (Inv2 (pas x) (fun t => (lr, listOf vs4.toArray 0) :: (L + 1 + 1 + 1, oX) :: (I, it) :: (L + 1 + 1, oR) :: (L + 1, oL) :: (D, listOf ws.toArray 0) :: t)) ?fin7 ?step7 _ 0 _ _ (Nat.zero_add _) ⟨_, _, _, _, _, _, .nil, tabz, fun _ h => h⟩))
          case hz7 => rw [sizeLine_eq, hv4]; omega
          case step7 =>
            rintro i7 ys7 news7 hi7 ⟨q7, r7, c7, d7, o7, u7, iv7, tab7, sub7⟩ v7 I7 oI7 Cc7 oC7 D7 m7 h8 tk8 E' hv7 hC7 hm7 F12 N12 off12 ne12
            clear F9 N9
            obtain ⟨a7, t7, rfl, ha7⟩ := ints_at iv4 hv7
            obtain ⟨p1, p2⟩ := c3 a7 (List.mem_of_getElem? ha7)
            replace off12 := show LCg.Off3 I7 Cc7 D7 ((lr, listOf vs4.toArray 0) :: (L + 1 + 1 + 1, oX) :: (I, it) :: (L + 1 + 1, oR) :: (L + 1, oL) :: (D, listOf ws.toArray 0) :: T4 q7 r7 c7 d7 o7 u7) from off3_sub off12 sub7
            have N13 := show News g L h8 ((lr, listOf vs4.toArray 0) :: (L + 1 + 1 + 1, oX) :: (I, it) :: (L + 1 + 1, oR) :: (L + 1, oL) :: (D, listOf ws.toArray 0) :: T4 q7 r7 c7 d7 o7 u7) from fun p hp => N12 p (.tail _ (.tail _ (.tail _ (sub7 p hp))))
            have offR := off_of (rest := [_, _, _, _, _, _]) N13 tab7 (by walk_at "mine noF")
            have off13 := off_three (rest := [_, _, _, _, _, _]) (oI := oI7) (oC := oC7) (oD := LCg.lst ys7) off12 offR
            replace N12 := News.put (a := (I7, oI7)) N12 (.head _) (News.put (a := (Cc7, oC7)) N12 (.tail _ (.head _)) (News.put (a := (D7, LCg.lst ys7)) N12 (.tail _ (.tail _ (.head _))) N13))
            clear N13 offR sub7
            (try dsimp only)
            k_steps
            · exact ⟨_, _, _, _, _, _, odds_yes iv7 ha7 (by assumption), by assumption, fun _ hp => List.Mem.tail _ hp⟩
            · exact ⟨_, _, _, _, _, _, odds_no iv7 ha7 (by assumption), by assumption, fun _ hp => List.Mem.tail _ hp⟩
          case fin7 =>
            rintro ys7 news7 ⟨q7, r7, c7, d7, o7, u7, iv7, tab7, sub7⟩
            intro D7 h8 tk8 F12 N12 off12
            clear F9 N9
            have ap12 := show Apart D7 ((lr, listOf vs4.toArray 0) :: (L + 1 + 1 + 1, oX) :: (I, it) :: (L + 1 + 1, oR) :: (L + 1, oL) :: (D, listOf ws.toArray 0) :: T4 q7 r7 c7 d7 o7 u7) from .mk fun y hy => (apart_off1 off12).all y (sub7 y hy)
            replace N12 := show News g L h8 ((D7, LCg.lst ys7) :: (lr, listOf vs4.toArray 0) :: (L + 1 + 1 + 1, oX) :: (I, it) :: (L + 1 + 1, oR) :: (L + 1, oL) :: (D, listOf ws.toArray 0) :: T4 q7 r7 c7 d7 o7 u7) from News.put N12 (.head _) (fun p hp => N12 p (.tail _ (sub7 p hp)))
            clear off12 sub7
            have ho7 : (odds (pas x) vs4.toArray.size).length ≤ 10 := odds_len (by omega)
            (try dsimp only)
            k_steps
            all_goals first | exact absurd c1' (by with_reducible assumption) | skip
            rename Fr _ _ _ _ => F15
            dsimp only [TurnPost]
            refine' TurnEnd.intro F15 ?zN8 ?hn8 ⟨oX, oR, oL, _, _, _, _, _, _, _, _, _, dX, dR, dL, rfl, ?tab8⟩
            case tab8 => assumption
            case zN8 => ((try dsimp only); walk_at "mine pick")
            case hn8 => ((try dsimp only); k_all)
  case done =>
    clear hN F dA dB dC
    rintro h tk m' news' ⟨oA, oB, oC, vA, vB, vC, q, r, c, d, o, u, dA, dB, dC, rfl, tab⟩ F N
    replace N := show News _ s1.heap.objs.size _ _ from N
    replace F := show Fr _ s1.heap.objs.size _ _ from F
    (try dsimp only)
    (try k_fold)
    k_steps)
end
end Mine
theorem PySem.Challenge.cw_gb0003_01_holds : PySem.Challenge.rw_gb0003_01.Holds := by
  exact Mine.law_all
