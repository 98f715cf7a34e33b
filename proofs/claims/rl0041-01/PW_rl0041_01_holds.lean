import PyProof.Rows.All
import Wide.All
import OpenK.AllK
import Wide.FinOn
import PySem.Challenge.RW_rl0041_01
open PySem PySem.W PyProof.Rows PySem.Calls PySem.Spec
set_option Elab.async false
set_option maxRecDepth 100000
set_option maxHeartbeats 8000000
set_option linter.unusedVariables false
namespace Mine
open_top hd for PySem.Challenge.rw_rl0041_01

set_option maxRecDepth 100000
set_option maxHeartbeats 8000000
/-- a def's call under any frame -/
abbrev Cl (prog : Program) (w : World) (K : Frag) (loose : List Str) (mean : ExcName → Option Value) (mg mb : Str → Option Value) (f : Addr) (news : List (Addr × Obj)) (dep : Nat) (vs : List Value)
    (R : Heap → Addr → (Str → Option Value) → Shared → (Value → Shared → Prop) → Prop) : Prop :=
  ∀ (dp un : Nat) (gd : Option (List Code)) (cn : Str) (cs : Scope) (a : Addr) (ccd : Value) (cl : List (Str × Addr)) (outer : List Env) (A₀ : Around) (base h₀ : Heap) (L : Addr) (m : Str → Option Value) (s : Shared) (Q E : Value → Shared → Prop),
    Below A₀ base outer h₀ → Fr h₀ L s.heap m → K.In h₀ → News h₀ L s.heap news → Top topProg loose mean mg mb h₀ → cs.kind = .function → CodeHd base 41 37 → CodeHd base 34 30 →
    dp + dep < recursionLimit → un + 8 * dep < cLine → R h₀ L m s Q →
      wpAny (model prog w) (ktrTop dp un gd cn cs L a ccd cl outer) (call (.ref f) vs) Q E s
abbrev tupObj (q r : Int) (t1 t2 : Tok) (c : Nat) : Obj := { cls := .type "tuple", data := .seq #[.int q t1, .int r t2] c }
abbrev RetTup (news : List (Addr × Obj)) (q r : Int) (h₀ : Heap) (L : Addr) (m : Str → Option Value) (s : Shared) (Q : Value → Shared → Prop) : Prop :=
  ∀ (D : Addr) (t1 t2 : Tok) (c : Nat) (h' : Heap) (tk' : Nat), Fr h₀ L h' m → News h₀ L h' ((D, tupObj q r t1 t2 c) :: news) → (∀ p ∈ news, p.1 < D) → Q (.ref D) { s with heap := h', toks := tk' }
section
variable {prog : Program} {w : World} {A : Around} {E : Value → Shared → Prop} {s : Shared} {h₀ : Heap} {L : Addr} {m : Str → Option Value} {news : List (Addr × Obj)}
theorem divmod_my {a b : Int} {t u : Tok} {Q : Value → Shared → Prop} (F : Fr h₀ L s.heap m) (N : News h₀ L s.heap news) (hb : 0 < b) (hb2 : b < 1073741824)
    (h : ∀ (D : Addr) (h' : Heap), Fr h₀ L h' m → News h₀ L h' ((D, tupObj (a.fdiv b) (a.fmod b) s.toks (s.toks + 1) 0) :: news) → (∀ p ∈ news, p.1 < D) →
      Q (.ref D) { s with heap := h', toks := s.toks + 1 + 1 }) :
    wpAny (model prog w) A (call (.builtin "divmod") [.int a t, .int b u]) Q E s :=
  divmod_N F N (by omega) (fun h' F' N' => h _ h' F' N' fun p hp => Heap.lt_size (N p hp).1) (.inl (PyProof.noPylong_small (by omega)))
end
/-- no object of the ledger is one of the two tables -/
def Apart (news : List (Addr × Obj)) : Prop := ∀ p ∈ news, p.1 ≠ 30 ∧ p.1 ≠ 37
theorem ne30 {news : List (Addr × Obj)} (h : Apart news) : ∀ p ∈ news, p.1 ≠ 30 := fun p hp => (h p hp).1
theorem ne37 {news : List (Addr × Obj)} (h : Apart news) : ∀ p ∈ news, p.1 ≠ 37 := fun p hp => (h p hp).2
theorem neLt {d : Addr} : ∀ {news : List (Addr × Obj)}, AllLt d news → ∀ p ∈ news, p.1 ≠ d
  | [], _, _, hp => nomatch hp
  | q :: r, h, p, hp => by
    rcases List.mem_cons.mp hp with rfl | hp
    · exact Nat.ne_of_lt h.1
    · exact neLt h.2 p hp
theorem ltAll {d : Addr} : ∀ {news : List (Addr × Obj)}, AllLt d news → ∀ p ∈ news, p.1 < d
  | [], _, _, hp => nomatch hp
  | q :: r, h, p, hp => by
    rcases List.mem_cons.mp hp with rfl | hp
    · exact h.1
    · exact ltAll h.2 p hp
theorem neS {d : Addr} {news : List (Addr × Obj)} (h : AllLt d news) : ∀ p ∈ news, p.1 ≠ d + 1 := fun p hp => Nat.ne_of_lt (Nat.lt_succ_of_lt (ltAll h p hp))
theorem neSS {d : Addr} {news : List (Addr × Obj)} (h : AllLt d news) : ∀ p ∈ news, p.1 ≠ d + 1 + 1 := fun p hp => Nat.ne_of_lt (Nat.lt_succ_of_lt (Nat.lt_succ_of_lt (ltAll h p hp)))
theorem neSSS {d : Addr} {news : List (Addr × Obj)} (h : AllLt d news) : ∀ p ∈ news, p.1 ≠ d + 1 + 1 + 1 := fun p hp => Nat.ne_of_lt (Nat.lt_succ_of_lt (Nat.lt_succ_of_lt (Nat.lt_succ_of_lt (ltAll h p hp))))

set_option maxRecDepth 100000
set_option maxHeartbeats 8000000
section
variable {prog : Program} {w : World} {A : Around} {E : Value → Shared → Prop} {s : Shared} {h₀ : Heap} {L : Addr} {m : Str → Option Value} {news : List (Addr × Obj)} {l : Addr} {vs : List Value} {ds : List Int} {c : Nat}
theorem len_my {Q : Value → Shared → Prop} (N : News h₀ L s.heap news) (hm : (l, listOf vs.toArray c) ∈ news) (hI : IntsAre vs ds) (hl : ds.length ≤ 1000000)
    (h : Q (.int (ds.length : Int) (s.toks + 1)) { s with toks := s.toks + 1 + 1 }) : wpAny (model prog w) A (call (.builtin "len") [.ref l]) Q E s := by
  have e : (vs.toArray.size : Int) = ds.length := by rw [List.size_toArray, hI.length]
  refine len_list (News.isList N hm) (by rw [e]; omega) ?_
  rw [e]; exact h
theorem truthy_my {Q : Bool → Shared → Prop} (N : News h₀ L s.heap news) (hm : (l, listOf vs.toArray c) ∈ news) (hI : IntsAre vs ds) (hl : ds.length ≤ 1000000)
    (h : Q (decide (0 < ds.length)) { s with toks := s.toks + 1 + 1 }) : wpAny (model prog w) A (truthy (.ref l)) Q E s := by
  have e : (vs.toArray.size : Int) = ds.length := by rw [List.size_toArray, hI.length]
  have e2 : (!vs.toArray.isEmpty) = decide (0 < ds.length) := by
    cases hI with
    | nil => rfl
    | cons => rfl
  refine wpAny_truthy_list (News.isList N hm) (by rw [e]; omega) ?_
  rw [e2]; exact h
theorem item_my {value slice : Expr} {k : Int} {u : Tok} {Q : Value → Shared → Prop} (N : News h₀ L s.heap news) (hm : (l, listOf vs.toArray c) ∈ news) (hI : IntsAre vs ds) (h0 : 0 ≤ k) (hk : k < ds.length) (hl : ds.length ≤ 1000000)
    (h : ∀ t, Q (.int (ds.getD k.toNat 0) t) s)
    (hs : subscripted slice false (.ref l) (.int k u) = operate [.ref l, .int k u] (getItem (.ref l) (.int k u)) := by with_unfolding_all rfl) (hg : ∀ r, letTemporaryGo value (.ref l) r = pure () := by intro _; with_unfolding_all rfl) :
    wpAny (model prog w) A (subscriptTail value slice (.ref l) (.int k u)) Q E s := by
  have hlt : k.toNat < ds.length := by omega
  obtain ⟨t, ht⟩ := hI.get k.toNat (ds.getD k.toNat 0) (by rw [List.getD_eq_getElem?_getD, List.getElem?_eq_getElem hlt]; rfl)
  exact item_list (News.isList N hm) h0 (by omega) (by simpa using ht) (h t) hs hg
end
/-- the number that digits make -/
def dval (n : Nat) : List Int → Int
  | [] => 0
  | d :: ds => d + 2 ^ n * dval n ds
theorem dval_append (n : Nat) : ∀ (xs ys : List Int), dval n (xs ++ ys) = dval n xs + 2 ^ (xs.length * n) * dval n ys
  | [], ys => by simp [dval]
  | x :: xs, ys => by
    simp only [List.cons_append, dval, dval_append n xs ys, List.length_cons]
    rw [Int.mul_add, ← Int.mul_assoc, ← Int.pow_add, Nat.add_mul, Nat.one_mul, Nat.add_comm n (xs.length * n)]
    omega
def DigOk (n : Nat) (ds : List Int) : Prop := ∀ d ∈ ds, 0 ≤ d ∧ d < 2 ^ n
theorem two_pow_pos (n : Nat) : (0 : Int) < 2 ^ n := Int.pow_pos (by decide)
theorem dval_bound {n : Nat} : ∀ {ds : List Int}, DigOk n ds → 0 ≤ dval n ds ∧ dval n ds < 2 ^ (ds.length * n)
  | [], _ => by simp [dval]
  | d :: ds, h => by
    have h1 := h d (.head _)
    have h2 := dval_bound (n := n) (ds := ds) fun e he => h e (.tail _ he)
    have hp := two_pow_pos n
    have e : (2 : Int) ^ ((d :: ds).length * n) = 2 ^ n * 2 ^ (ds.length * n) := by rw [← Int.pow_add, List.length_cons, Nat.add_mul, Nat.one_mul, Nat.add_comm]
    rw [e]
    simp only [dval]
    have a1 : 0 ≤ 2 ^ n * dval n ds := Int.mul_nonneg (by omega) h2.1
    have a2 : (2 : Int) ^ n * (dval n ds + 1) ≤ 2 ^ n * 2 ^ (ds.length * n) := Int.mul_le_mul_of_nonneg_left (by omega) (by omega)
    rw [Int.mul_add, Int.mul_one] at a2
    constructor <;> omega
theorem DigOk.part {n : Nat} {ds : List Int} (h : DigOk n ds) (i k : Nat) : DigOk n ((ds.drop i).take k) := fun d hd => h d (List.mem_of_mem_drop (List.mem_of_mem_take hd))
theorem part_bound {n : Nat} {ds : List Int} (h : DigOk n ds) (hsz : ds.length * n ≤ 60) (i k : Nat) : (dval n ((ds.drop i).take k)).natAbs < 2 ^ 64 := by
  have b := dval_bound (h.part i k)
  have hl : ((ds.drop i).take k).length * n ≤ 60 := Nat.le_trans (Nat.mul_le_mul_right n (by rw [List.length_take, List.length_drop]; omega)) hsz
  have hp : (2 : Int) ^ (((ds.drop i).take k).length * n) ≤ 2 ^ 60 := by
    have := Nat.pow_le_pow_right (n := 2) (by decide) hl
    exact_mod_cast this
  have : (2 : Int) ^ 60 < 2 ^ 64 := by decide
  omega
theorem mid_facts {x y : Int} (h : x < y) (hne : x + 1 ≠ y) : x < (x + y).fdiv (2 ^ Int.toNat 1) ∧ (x + y).fdiv (2 ^ Int.toNat 1) < y := by
  rw [show (2 : Int) ^ Int.toNat 1 = 2 from rfl, Int.fdiv_eq_ediv_of_nonneg _ (by decide)]
  omega
theorem shift_facts {m x : Int} {n k : Nat} (h : x < m) (h2 : m - x ≤ k) (hk : k ≤ 30) (hn : n ≤ 30) : 0 ≤ (m - x) * (n : Int) ∧ (m - x) * (n : Int) ≤ 1000000 := by
  constructor
  · exact Int.mul_nonneg (by omega) (by omega)
  · have : (m - x) * (n : Int) ≤ 30 * 30 := Int.mul_le_mul (by omega) (by omega) (by omega) (by decide)
    omega
theorem split_val {n : Nat} {ds : List Int} {x y m : Int} (h0 : 0 ≤ x) (h1 : x < m) (h2 : m < y) (h3 : y ≤ ds.length) :
    dval n ((ds.drop m.toNat).take (y - m).toNat) * 2 ^ ((m - x) * (n : Int)).toNat + dval n ((ds.drop x.toNat).take (m - x).toNat) = dval n ((ds.drop x.toNat).take (y - x).toNat) := by
  have e1 : (ds.drop x.toNat).take (y - x).toNat = (ds.drop x.toNat).take (m - x).toNat ++ (ds.drop m.toNat).take (y - m).toNat := by
    rw [show (y - x).toNat = (m - x).toNat + (y - m).toNat by omega, List.take_add, List.drop_drop, show x.toNat + (m - x).toNat = m.toNat by omega]
  rw [e1, dval_append]
  have e2 : ((ds.drop x.toNat).take (m - x).toNat).length = (m - x).toNat := by rw [List.length_take, List.length_drop]; omega
  have e3 : ((m - x) * (n : Int)).toNat = (m - x).toNat * n := by
    have : ((m - x).toNat : Int) = m - x := by omega
    rw [← this, ← Int.natCast_mul, Int.toNat_natCast, this]
  rw [e2, e3, Int.mul_comm]
  omega
theorem one_val {n : Nat} {ds : List Int} {x y : Int} (h0 : 0 ≤ x) (h1 : x + 1 = y) (h3 : y ≤ ds.length) : ds.getD x.toNat 0 = dval n ((ds.drop x.toNat).take (y - x).toNat) := by
  have hlt : x.toNat < ds.length := by omega
  rw [show (y - x).toNat = 1 by omega, List.drop_eq_getElem_cons hlt, List.take_succ_cons, List.take_zero]
  simp only [dval]
  rw [List.getD_eq_getElem?_getD, List.getElem?_eq_getElem hlt, Option.getD_some, Int.mul_zero, Int.add_zero]
def In2 (prog : Program) (w : World) (K : Frag) (loose : List Str) (mean : ExcName → Option Value) (mg mb : Str → Option Value) (f l cD cI cN c' : Addr) (fo oD oI oN oc lo : Obj) (n : Nat) (ds : List Int) (N : Nat) : Prop :=
  ∀ (dp un : Nat) (gd : Option (List Code)) (cn : Str) (cs : Scope) (a : Addr) (ccd : Value) (cl : List (Str × Addr)) (outer : List Env) (A₀ : Around) (base h₀ : Heap) (L : Addr) (m : Str → Option Value) (s : Shared) (Q E : Value → Shared → Prop)
    (news : List (Addr × Obj)) (x y : Int) (tx ty : Tok),
    Below A₀ base outer h₀ → Fr h₀ L s.heap m → K.In h₀ → News h₀ L s.heap news → Top topProg loose mean mg mb h₀ → cs.kind = .function → CodeHd base 41 37 →
    (f, fo) ∈ news → (cD, oD) ∈ news → (cI, oI) ∈ news → (cN, oN) ∈ news → (c', oc) ∈ news → (l, lo) ∈ news →
    0 ≤ x → x < y → y ≤ ds.length → (y - x).toNat ≤ N → dp + (N + 1) < recursionLimit → un + 8 * (N + 1) < cLine →
    (∀ t h' tk', Fr h₀ L h' m → News h₀ L h' news → Q (.int (dval n ((ds.drop x.toNat).take (y - x).toNat)) t) { s with heap := h', toks := tk' }) →
    wpAny (model prog w) (ktrTop dp un gd cn cs L a ccd cl outer) (call (.ref f) [.int x tx, .int y ty]) Q E s
section
variable {prog : Program} {w : World} {K : Frag} {loose : List Str} {mean : ExcName → Option Value} {mg mb : Str → Option Value} {f l cD cI cN c' : Addr} {fo oD oI oN oc lo : Obj} {n : Nat} {ds : List Int} {N : Nat}
theorem in2_ind (step : ∀ N, In2 prog w K loose mean mg mb f l cD cI cN c' fo oD oI oN oc lo n ds N → In2 prog w K loose mean mg mb f l cD cI cN c' fo oD oI oN oc lo n ds (N + 1)) : ∀ N, In2 prog w K loose mean mg mb f l cD cI cN c' fo oD oI oN oc lo n ds N
  | 0 => by unfold In2; intros; omega
  | N + 1 => step N (in2_ind step N)
theorem in2_go (I : In2 prog w K loose mean mg mb f l cD cI cN c' fo oD oI oN oc lo n ds N)
    {dp un : Nat} {gd : Option (List Code)} {cn : Str} {cs : Scope} {a : Addr} {ccd : Value} {cl : List (Str × Addr)} {outer : List Env} {A₀ : Around} {base h₀ : Heap} {L : Addr} {m : Str → Option Value} {s : Shared} {Q E : Value → Shared → Prop}
    {news : List (Addr × Obj)} {x y : Int} {tx ty : Tok}
    (B : Below A₀ base outer h₀) (F : Fr h₀ L s.heap m) (X : K.In h₀) (Ne : News h₀ L s.heap news) (T : Top topProg loose mean mg mb h₀) (hk : cs.kind = .function) (C : CodeHd base 41 37)
    (h1 : (f, fo) ∈ news) (h2 : (cD, oD) ∈ news) (h3 : (cI, oI) ∈ news) (h4 : (cN, oN) ∈ news) (h5 : (c', oc) ∈ news) (h6 : (l, lo) ∈ news)
    (h7 : 0 ≤ x) (h8 : x < y) (h9 : y ≤ ds.length) (h10 : (y - x).toNat ≤ N) (h11 : dp + (N + 1) < recursionLimit) (h12 : un + 8 * (N + 1) < cLine)
    (h13 : ∀ t h' tk', Fr h₀ L h' m → News h₀ L h' news → Q (.int (dval n ((ds.drop x.toNat).take (y - x).toNat)) t) { s with heap := h', toks := tk' }) :
    wpAny (model prog w) (ktrTop dp un gd cn cs L a ccd cl outer) (call (.ref f) [.int x tx, .int y ty]) Q E s :=
  I dp un gd cn cs a ccd cl outer A₀ base h₀ L m s Q E news x y tx ty B F X Ne T hk C h1 h2 h3 h4 h5 h6 h7 h8 h9 h10 h11 h12 h13
def Later (P : Prop) : Prop := P
/-- the first call: the closure's own shape is fixed here -/
theorem in2_use {name qual : Str} {params : Arguments} {body : List Stmt} {scope : Scope} {doc pm ctv : Value} {k1 k2 k3 : Str} {vs : List Value} {c : Nat} {tn : Tok} {vsc : Array Value} {tq : Tok}
    {dp un : Nat} {gd : Option (List Code)} {cn : Str} {cs : Scope} {a : Addr} {ccd : Value} {cl : List (Str × Addr)} {outer : List Env} {A₀ : Around} {base h₀ : Heap} {L : Addr} {m : Str → Option Value} {s : Shared} {Q E : Value → Shared → Prop}
    {news : List (Addr × Obj)} {y : Int} {tx ty : Tok}
    (B : Below A₀ base outer h₀) (F : Fr h₀ L s.heap m) (X : K.In h₀) (Ne : News h₀ L s.heap news) (T : Top topProg loose mean mg mb h₀) (hk : cs.kind = .function) (C : CodeHd base 41 37)
    (h1 : (f, fnMade name qual params body scope [(k1, cN), (k2, cI), (k3, cD)] doc pm c' ctv) ∈ news) (h2 : (cD, oD) ∈ news) (h3 : (cI, oI) ∈ news) (h4 : (cN, oN) ∈ news) (h5 : (c', oc) ∈ news) (h6 : (l, listOf vs.toArray c) ∈ news)
    (g1 : oD.data = .cell (some (.ref l))) (g2 : oI.data = .cell (some (.ref f))) (g3 : oN.data = .cell (some (.int (n : Int) tn))) (g4 : oc.data = .fields vsc) (g5 : vsc[1]? = some (.str qual tq)) (g6 : IntsAre vs ds)
    (h8 : 0 < y) (h9 : y = ds.length) (h11 : dp + (ds.length + 1) < recursionLimit) (h12 : un + 8 * (ds.length + 1) < cLine)
    (h13 : ∀ t h' tk', Fr h₀ L h' m → News h₀ L h' news → Q (.int (dval n ds) t) { s with heap := h', toks := tk' })
    (step : Later (oD.data = .cell (some (.ref l)) → oI.data = .cell (some (.ref f)) → oN.data = .cell (some (.int (n : Int) tn)) → oc.data = .fields vsc → vsc[1]? = some (.str qual tq) → IntsAre vs ds →
      ∀ N, In2 prog w K loose mean mg mb f l cD cI cN c' (fnMade name qual params body scope [(k1, cN), (k2, cI), (k3, cD)] doc pm c' ctv) oD oI oN oc (listOf vs.toArray c) n ds N →
       In2 prog w K loose mean mg mb f l cD cI cN c' (fnMade name qual params body scope [(k1, cN), (k2, cI), (k3, cD)] doc pm c' ctv) oD oI oN oc (listOf vs.toArray c) n ds (N + 1))) :
    wpAny (model prog w) (ktrTop dp un gd cn cs L a ccd cl outer) (call (.ref f) [.int 0 tx, .int y ty]) Q E s := by
  unfold Later at step
  refine in2_go (in2_ind (step g1 g2 g3 g4 g5 g6) ds.length) B F X Ne T hk C h1 h2 h3 h4 h5 h6 (by omega) h8 (by omega) (by omega) h11 h12 ?_
  have e : (ds.drop (0 : Int).toNat).take (y - 0).toNat = ds := by
    rw [show (0 : Int).toNat = 0 from rfl, List.drop_zero, show (y - 0).toNat = ds.length by omega, List.take_length]
  rw [e]
  exact h13
end

set_option maxRecDepth 100000
set_option maxHeartbeats 2000000
/-- k digits of x, the least first -/
def dig (n : Nat) : Nat → Int → List Int
  | 0, _ => []
  | k + 1, x => (x % 2 ^ n) :: dig n k (x / 2 ^ n)
theorem dig_length (n : Nat) : ∀ (k : Nat) (x : Int), (dig n k x).length = k
  | 0, _ => rfl
  | k + 1, x => by simp [dig, dig_length n k]
theorem dig_ok (n : Nat) : ∀ (k : Nat) (x : Int), DigOk n (dig n k x)
  | 0, _ => fun d hd => nomatch hd
  | k + 1, x => fun d hd => by
    have hp := two_pow_pos n
    rcases List.mem_cons.mp hd with rfl | hd
    · exact ⟨Int.emod_nonneg _ (by omega), Int.emod_lt_of_pos _ hp⟩
    · exact dig_ok n k _ d hd
theorem dig_val (n : Nat) : ∀ (k : Nat) (x : Int), 0 ≤ x → x < 2 ^ (k * n) → dval n (dig n k x) = x
  | 0, x, h0, h1 => by simp [dig, dval] at *; omega
  | k + 1, x, h0, h1 => by
    have hp := two_pow_pos n
    have e : (2 : Int) ^ ((k + 1) * n) = 2 ^ (k * n) * 2 ^ n := by rw [← Int.pow_add, Nat.add_mul, Nat.one_mul]
    rw [e] at h1
    simp only [dig, dval]
    rw [dig_val n k (x / 2 ^ n) (Int.ediv_nonneg h0 (by omega)) (Int.ediv_lt_of_lt_mul hp h1)]
    have := Int.emod_add_mul_ediv x (2 ^ n)
    omega
theorem dig_split (n : Nat) : ∀ (p q : Nat) (x : Int), dig n (p + q) x = dig n p (x % 2 ^ (p * n)) ++ dig n q (x / 2 ^ (p * n))
  | 0, q, x => by simp [dig]
  | p + 1, q, x => by
    have hp := two_pow_pos n
    have hpp := two_pow_pos (p * n)
    have e : (2 : Int) ^ ((p + 1) * n) = 2 ^ n * 2 ^ (p * n) := by rw [← Int.pow_add, Nat.add_mul, Nat.one_mul, Nat.add_comm]
    rw [show p + 1 + q = (p + q) + 1 by omega]
    simp only [dig, List.cons_append]
    rw [dig_split n p q (x / 2 ^ n), e]
    congr 1
    · rw [Int.emod_emod_of_dvd _ ⟨_, rfl⟩]
    · congr 1
      · congr 1
        have h1 := Int.emod_add_mul_ediv x (2 ^ n * 2 ^ (p * n))
        have h2 : x / 2 ^ n % 2 ^ (p * n) = x / 2 ^ n - 2 ^ (p * n) * (x / 2 ^ n / 2 ^ (p * n)) := by have := Int.emod_add_mul_ediv (x / 2 ^ n) (2 ^ (p * n)); omega
        have h3 : x % (2 ^ n * 2 ^ (p * n)) = x - 2 ^ n * (2 ^ (p * n) * (x / 2 ^ n / 2 ^ (p * n))) := by
          rw [Int.ediv_ediv_of_nonneg (by omega)]
          rw [Int.mul_assoc] at h1
          omega
        have h4 : x - 2 ^ n * (2 ^ (p * n) * (x / 2 ^ n / 2 ^ (p * n))) = x + 2 ^ n * (-(2 ^ (p * n) * (x / 2 ^ n / 2 ^ (p * n)))) := by rw [Int.mul_neg]; omega
        rw [h2, h3, h4, Int.add_mul_ediv_left _ _ (by omega)]
        omega
      · rw [Int.ediv_ediv_of_nonneg (by omega)]
/-- a part of a list laid anew -/
def put (ds : List Int) (i : Nat) (e : List Int) : List Int := ds.take i ++ e ++ ds.drop (i + e.length)
theorem put_length {ds : List Int} {i : Nat} {e : List Int} (h : i + e.length ≤ ds.length) : (put ds i e).length = ds.length := by
  simp only [put, List.length_append, List.length_take, List.length_drop]; omega
theorem put_one {n : Nat} {ds : List Int} {i j x : Int} (h0 : 0 ≤ i) (h1 : i + 1 = j) (h2 : j ≤ ds.length) (hx0 : 0 ≤ x) (hx : x < 2 ^ ((j - i).toNat * n)) : ds.set i.toNat x = put ds i.toNat (dig n (j - i).toNat x) := by
  have e : (j - i).toNat = 1 := by omega
  rw [e] at hx ⊢
  rw [Nat.one_mul] at hx
  simp only [dig, put, Int.emod_eq_of_lt hx0 hx, List.length_cons, List.length_nil]
  rw [List.set_eq_take_append_cons_drop, if_pos (by omega)]
  simp
theorem put_put {ds e1 e2 : List Int} {i m : Nat} (h1 : i + e1.length = m) (h2 : m + e2.length ≤ ds.length) : put (put ds i e1) m e2 = put ds i (e1 ++ e2) := by
  have l1 : (ds.take i ++ e1).length = m := by rw [List.length_append, List.length_take]; omega
  have t : (put ds i e1).take m = ds.take i ++ e1 := by
    unfold put
    rw [List.take_append_of_le_length (by omega), List.take_of_length_le (by omega)]
  have d : (put ds i e1).drop (m + e2.length) = ds.drop (i + (e1 ++ e2).length) := by
    unfold put
    rw [List.drop_append, List.drop_eq_nil_of_le (by omega), List.nil_append, List.drop_drop, l1, h1, List.length_append]
    congr 1
    omega
  show (put ds i e1).take m ++ e2 ++ (put ds i e1).drop (m + e2.length) = _
  rw [t, d]
  simp [put, List.append_assoc]
theorem xor_low (x : Int) (k : Nat) (h : 0 ≤ x) : Builtin.bitXor x (x.fdiv (2 ^ k) * 2 ^ k) = x % 2 ^ k := by
  obtain ⟨a, rfl⟩ := Int.eq_ofNat_of_zero_le h
  have e : (a : Int).fdiv (2 ^ k) * 2 ^ k = ((a >>> k <<< k : Nat) : Int) := by
    rw [Int.fdiv_eq_ediv_of_nonneg _ (by have := two_pow_pos k; omega), Nat.shiftLeft_eq, Nat.shiftRight_eq_div_pow]
    simp
  have e2 : a &&& (a >>> k <<< k) = a >>> k <<< k := by
    apply Nat.eq_of_testBit_eq
    intro i
    simp only [Nat.testBit_and, Nat.testBit_shiftLeft, Nat.testBit_shiftRight]
    by_cases hi : i ≥ k
    · simp [hi, show k + (i - k) = i by omega]
    · simp [hi]
  rw [e, bitXor_and, bitAnd_pp (by exact h) (by omega)]
  show (a : Int) + _ - 2 * ((((a : Int).toNat &&& ((a >>> k <<< k : Nat) : Int).toNat) : Nat) : Int) = _
  rw [Int.toNat_natCast, Int.toNat_natCast, e2, Nat.shiftLeft_eq, Nat.shiftRight_eq_div_pow]
  have := Int.emod_add_mul_ediv (a : Int) (2 ^ k)
  show (a : Int) + _ - _ = (a : Int) % 2 ^ k
  push_cast
  rw [Int.mul_comm] at this
  omega
def In1 (prog : Program) (w : World) (K : Frag) (loose : List Str) (mean : ExcName → Option Value) (mg mb : Str → Option Value) (f l cD cI cN c' : Addr) (fo oD oI oN oc : Obj) (n D N : Nat) : Prop :=
  ∀ (dp un : Nat) (gd : Option (List Code)) (cn : Str) (cs : Scope) (a : Addr) (ccd : Value) (cl : List (Str × Addr)) (outer : List Env) (A₀ : Around) (base h₀ : Heap) (L : Addr) (m : Str → Option Value) (s : Shared) (Q E : Value → Shared → Prop)
    (news : List (Addr × Obj)) (vs : List Value) (ds : List Int) (c : Nat) (x i j : Int) (tx ti tj : Tok),
    Below A₀ base outer h₀ → Fr h₀ L s.heap m → K.In h₀ → News h₀ L s.heap ((l, listOf vs.toArray c) :: news) → Top topProg loose mean mg mb h₀ → cs.kind = .function → CodeHd base 34 30 →
    (f, fo) ∈ news → (cD, oD) ∈ news → (cI, oI) ∈ news → (cN, oN) ∈ news → (c', oc) ∈ news → (∀ p ∈ news, p.1 ≠ l) → IntsAre vs ds → ds.length = D →
    0 ≤ x → x < 2 ^ ((j - i).toNat * n) → 0 ≤ i → i < j → j ≤ D → (j - i).toNat ≤ N → dp + (N + 1) < recursionLimit → un + 8 * (N + 1) < cLine →
    (∀ vs' h' tk', Fr h₀ L h' m → News h₀ L h' ((l, listOf vs'.toArray c) :: news) → IntsAre vs' (put ds i.toNat (dig n (j - i).toNat x)) → Q .none { s with heap := h', toks := tk' }) →
    wpAny (model prog w) (ktrTop dp un gd cn cs L a ccd cl outer) (call (.ref f) [.int x tx, .int i ti, .int j tj]) Q E s
section
variable {prog : Program} {w : World} {K : Frag} {loose : List Str} {mean : ExcName → Option Value} {mg mb : Str → Option Value} {f l cD cI cN c' : Addr} {fo oD oI oN oc : Obj} {n D N : Nat}
theorem in1_ind (step : ∀ N, In1 prog w K loose mean mg mb f l cD cI cN c' fo oD oI oN oc n D N → In1 prog w K loose mean mg mb f l cD cI cN c' fo oD oI oN oc n D (N + 1)) : ∀ N, In1 prog w K loose mean mg mb f l cD cI cN c' fo oD oI oN oc n D N
  | 0 => by unfold In1; intros; omega
  | N + 1 => step N (in1_ind step N)
theorem in1_go (I : In1 prog w K loose mean mg mb f l cD cI cN c' fo oD oI oN oc n D N)
    {dp un : Nat} {gd : Option (List Code)} {cn : Str} {cs : Scope} {a : Addr} {ccd : Value} {cl : List (Str × Addr)} {outer : List Env} {A₀ : Around} {base h₀ : Heap} {L : Addr} {m : Str → Option Value} {s : Shared} {Q E : Value → Shared → Prop}
    {news : List (Addr × Obj)} {vs : List Value} {ds : List Int} {c : Nat} {x i j : Int} {tx ti tj : Tok}
    (B : Below A₀ base outer h₀) (F : Fr h₀ L s.heap m) (X : K.In h₀) (Ne : News h₀ L s.heap ((l, listOf vs.toArray c) :: news)) (T : Top topProg loose mean mg mb h₀) (hk : cs.kind = .function) (C : CodeHd base 34 30)
    (h1 : (f, fo) ∈ news) (h2 : (cD, oD) ∈ news) (h3 : (cI, oI) ∈ news) (h4 : (cN, oN) ∈ news) (h5 : (c', oc) ∈ news) (h6 : ∀ p ∈ news, p.1 ≠ l) (h6i : IntsAre vs ds) (h6d : ds.length = D)
    (h7 : 0 ≤ x) (h7b : x < 2 ^ ((j - i).toNat * n)) (h8 : 0 ≤ i) (h8b : i < j) (h9 : j ≤ D) (h10 : (j - i).toNat ≤ N) (h11 : dp + (N + 1) < recursionLimit) (h12 : un + 8 * (N + 1) < cLine)
    (h13 : ∀ vs' h' tk', Fr h₀ L h' m → News h₀ L h' ((l, listOf vs'.toArray c) :: news) → IntsAre vs' (put ds i.toNat (dig n (j - i).toNat x)) → Q .none { s with heap := h', toks := tk' }) :
    wpAny (model prog w) (ktrTop dp un gd cn cs L a ccd cl outer) (call (.ref f) [.int x tx, .int i ti, .int j tj]) Q E s :=
  I dp un gd cn cs a ccd cl outer A₀ base h₀ L m s Q E news vs ds c x i j tx ti tj B F X Ne T hk C h1 h2 h3 h4 h5 h6 h6i h6d h7 h7b h8 h8b h9 h10 h11 h12 h13
/-- the list of the ledger first -/
theorem front {news news' : List (Addr × Obj)} {l : Addr} {o : Obj} {g : Obj → List (Addr × Obj)} (U : UpdF l o news g) : ∃ rest, (∀ p ∈ rest, p.1 ≠ l) ∧ (∀ p ∈ rest, p ∈ news) ∧ (∀ p, p.1 ≠ l → p ∈ news → p ∈ rest) ∧ (l, o) ∈ news ∧ ∀ o' p, p ∈ g o' → p ∈ (l, o') :: rest := by
  obtain ⟨pre, post, rfl, hg, h1, h2⟩ := U.split
  refine ⟨pre ++ post, fun p hp => ?_, fun p hp => ?_, fun p hn hp => ?_, List.mem_append_right _ (.head _), fun o' p hp => ?_⟩
  · rcases List.mem_append.mp hp with hp | hp
    · exact h1 p hp
    · exact h2 p hp
  · rcases List.mem_append.mp hp with hp | hp
    · exact List.mem_append_left _ hp
    · exact List.mem_append_right _ (.tail _ hp)
  · rcases List.mem_append.mp hp with hp | hp
    · exact List.mem_append_left _ hp
    · rcases List.mem_cons.mp hp with rfl | hp
      · exact absurd rfl hn
      · exact List.mem_append_right _ hp
  · rw [hg] at hp
    rcases List.mem_append.mp hp with hp | hp
    · exact .tail _ (List.mem_append_left _ hp)
    · rcases List.mem_cons.mp hp with rfl | hp
      · exact .head _
      · exact .tail _ (List.mem_append_right _ hp)
theorem put_all {ds e : List Int} (h : e.length = ds.length) : put ds 0 e = e := by
  unfold put
  rw [List.take_zero, List.nil_append, List.drop_eq_nil_of_le (by omega), List.append_nil]
/-- the first call: the closure's own shape is fixed here -/
theorem in1_use {name qual : Str} {params : Arguments} {body : List Stmt} {scope : Scope} {doc pm ctv : Value} {k1 k2 k3 : Str} {vs : List Value} {ds : List Int} {c : Nat} {tn : Tok} {vsc : Array Value} {tq : Tok}
    {dp un : Nat} {gd : Option (List Code)} {cn : Str} {cs : Scope} {a : Addr} {ccd : Value} {cl : List (Str × Addr)} {outer : List Env} {A₀ : Around} {base h₀ : Heap} {L : Addr} {m : Str → Option Value} {s : Shared} {Q E : Value → Shared → Prop}
    {news : List (Addr × Obj)} {g : Obj → List (Addr × Obj)} {x y : Int} {tx ti ty : Tok}
    (B : Below A₀ base outer h₀) (F : Fr h₀ L s.heap m) (X : K.In h₀) (Ne : News h₀ L s.heap news) (T : Top topProg loose mean mg mb h₀) (hk : cs.kind = .function) (C : CodeHd base 34 30)
    (U : UpdF l (listOf vs.toArray c) news g)
    (h1 : (f, fnMade name qual params body scope [(k1, cN), (k2, cI), (k3, cD)] doc pm c' ctv) ∈ news) (h2 : (cD, oD) ∈ news) (h3 : (cI, oI) ∈ news) (h4 : (cN, oN) ∈ news) (h5 : (c', oc) ∈ news)
    (q1 : f ≠ l) (q2 : cD ≠ l) (q3 : cI ≠ l) (q4 : cN ≠ l) (q5 : c' ≠ l)
    (g1 : oD.data = .cell (some (.ref l))) (g2 : oI.data = .cell (some (.ref f))) (g3 : oN.data = .cell (some (.int (n : Int) tn))) (g4 : oc.data = .fields vsc) (g5 : vsc[1]? = some (.str qual tq)) (g6 : IntsAre vs ds) (g7 : ds.length = D)
    (h7 : 0 ≤ x) (h7b : x < 2 ^ (D * n)) (h8 : 0 < y) (h9 : y = D) (h11 : dp + (D + 1) < recursionLimit) (h12 : un + 8 * (D + 1) < cLine)
    (h13 : ∀ vs' h' tk', Fr h₀ L h' m → News h₀ L h' (g (listOf vs'.toArray c)) → IntsAre vs' (dig n D x) → Q .none { s with heap := h', toks := tk' })
    (step : Later (oD.data = .cell (some (.ref l)) → oI.data = .cell (some (.ref f)) → oN.data = .cell (some (.int (n : Int) tn)) → oc.data = .fields vsc → vsc[1]? = some (.str qual tq) →
      ∀ N, In1 prog w K loose mean mg mb f l cD cI cN c' (fnMade name qual params body scope [(k1, cN), (k2, cI), (k3, cD)] doc pm c' ctv) oD oI oN oc n D N →
       In1 prog w K loose mean mg mb f l cD cI cN c' (fnMade name qual params body scope [(k1, cN), (k2, cI), (k3, cD)] doc pm c' ctv) oD oI oN oc n D (N + 1))) :
    wpAny (model prog w) (ktrTop dp un gd cn cs L a ccd cl outer) (call (.ref f) [.int x tx, .int 0 ti, .int y ty]) Q E s := by
  unfold Later at step
  obtain ⟨rest, r1, r2, r3, r4, r5⟩ := front (news' := news) U
  have e0 : (y - 0).toNat = D := by omega
  refine in1_go (in1_ind (step g1 g2 g3 g4 g5) D) (vs := vs) (ds := ds) (c := c) (news := rest) B F X (fun p hp => ?_) T hk C (r3 _ q1 h1) (r3 _ q2 h2) (r3 _ q3 h3) (r3 _ q4 h4) (r3 _ q5 h5) r1 g6 g7 h7 (by rw [e0]; exact h7b) (by omega) h8 (by omega) (by omega) h11 h12 ?_
  · rcases List.mem_cons.mp hp with rfl | hp
    · exact Ne _ r4
    · exact Ne _ (r2 _ hp)
  · intro vs' h' tk' F' N' I'
    rw [e0, show (0 : Int).toNat = 0 from rfl, put_all (by rw [dig_length]; omega)] at I'
    exact h13 vs' h' tk' F' (fun p hp => N' p (r5 _ p hp)) I'
end

theorem bits_lt {a : Int} (h0 : 0 ≤ a) : a < 2 ^ Builtin.Int.intBits a := by
  unfold Builtin.Int.intBits
  by_cases h : a = 0
  · subst h; decide
  · rw [if_neg (by simpa using h)]
    have h1 : a.natAbs ≠ 0 := by omega
    have h2 : a.natAbs < 2 ^ (a.natAbs.log2 + 1) := Nat.lt_log2_self
    have h3 : ((a.natAbs : Nat) : Int) < ((2 ^ (a.natAbs.log2 + 1) : Nat) : Int) := by exact_mod_cast h2
    have h4 : (a.natAbs : Int) = a := by omega
    rw [h4] at h3
    simpa using h3
theorem bits_le {a : Int} {k : Nat} (h0 : 0 ≤ a) (h : a < 2 ^ k) : Builtin.Int.intBits a ≤ k := by
  unfold Builtin.Int.intBits
  by_cases h1 : a = 0
  · subst h1; simp
  · rw [if_neg (by simpa using h1)]
    have h2 : a.natAbs ≠ 0 := by omega
    have h3 : ((a.natAbs : Nat) : Int) < ((2 ^ k : Nat) : Int) := by
      have h4 : (a.natAbs : Int) = a := by omega
      rw [h4]; simpa using h
    have h5 : a.natAbs < 2 ^ k := by exact_mod_cast h3
    have := (Nat.log2_lt h2).mpr h5
    omega
theorem bits_pos {b : Int} (h0 : 0 < b) (h : b < 1073741824) : 0 < Builtin.Int.intBits b ∧ Builtin.Int.intBits b ≤ 30 := by
  refine ⟨?_, bits_le (by omega) (by omega)⟩
  unfold Builtin.Int.intBits
  rw [if_neg (by simp; omega)]
  omega
/-- the number of digits -/
theorem digs_facts {a : Int} {n : Nat} (h0 : 0 ≤ a) (h : a < 2 ^ 30) (hn : 0 < n) (hn2 : n ≤ 30) :
    0 ≤ ((Builtin.Int.intBits a : Int) + n - 1).fdiv n ∧ ((Builtin.Int.intBits a : Int) + n - 1).fdiv n ≤ 30 ∧ a < 2 ^ ((((Builtin.Int.intBits a : Int) + n - 1).fdiv n).toNat * n) ∧ (((Builtin.Int.intBits a : Int) + n - 1).fdiv n).toNat * n ≤ 60 ∧ (0 < a → 0 < ((Builtin.Int.intBits a : Int) + n - 1).fdiv n) ∧ (((Builtin.Int.intBits a : Int) + n - 1).fdiv n).toNat ≤ 30 := by
  have hb := bits_le h0 h
  have hlt := bits_lt h0
  generalize Builtin.Int.intBits a = b at *
  rw [Int.fdiv_eq_ediv_of_nonneg _ (by omega)]
  have hq : ((b : Int) + n - 1) / n = (((b + n - 1) / n : Nat) : Int) := by
    rw [show ((b : Int) + n - 1) = ((b + n - 1 : Nat) : Int) by omega]; rfl
  rw [hq, Int.toNat_natCast]
  have h1 : (b + n - 1) / n * n ≤ b + n - 1 := Nat.div_mul_le_self _ _
  have h2 : b + n - 1 < ((b + n - 1) / n + 1) * n := by
    have := Nat.lt_mul_div_succ (b + n - 1) hn
    rw [Nat.mul_comm] at this
    exact this
  rw [Nat.add_mul, Nat.one_mul] at h2
  have h3 : b ≤ (b + n - 1) / n * n := by omega
  have h4 : (b + n - 1) / n ≤ b := by
    rcases Nat.eq_zero_or_pos b with e | e
    · subst e
      rw [Nat.div_eq_of_lt (by omega)]
      omega
    · have : (b + n - 1) / n < b + 1 := by
        rw [Nat.div_lt_iff_lt_mul hn]
        have : b * 1 ≤ b * n := Nat.mul_le_mul_left b hn
        rw [Nat.add_mul]
        omega
      omega
  have h5 : (2 : Int) ^ b ≤ 2 ^ ((b + n - 1) / n * n) := by
    have := Nat.pow_le_pow_right (n := 2) (by decide) h3
    exact_mod_cast this
  have h6 : b ≠ 0 → 0 < (b + n - 1) / n := fun hb0 => Nat.div_pos (by omega) hn
  clear hq
  generalize (b + n - 1) / n = q at *
  refine ⟨by omega, by omega, by omega, by omega, fun ha => ?_, by omega⟩
  have hb0 : b ≠ 0 := by intro e; subst e; simp at hlt; omega
  have := h6 hb0
  omega
theorem zeros_facts (n : Nat) : ∀ k : Nat, DigOk n (List.replicate k [(0 : Int)]).flatten ∧ dval n (List.replicate k [(0 : Int)]).flatten = 0 ∧ (List.replicate k [(0 : Int)]).flatten.length = k
  | 0 => ⟨fun d hd => (nomatch hd), rfl, rfl⟩
  | k + 1 => by
    obtain ⟨h1, h2, h3⟩ := zeros_facts n k
    rw [List.replicate_succ, List.flatten_cons]
    refine ⟨fun d hd => ?_, ?_, ?_⟩
    · have hp := two_pow_pos n
      rcases List.mem_cons.mp hd with rfl | hd
      · exact ⟨by decide, hp⟩
      · exact h1 d hd
    · show 0 + 2 ^ n * dval n (List.replicate k [(0 : Int)]).flatten = 0
      rw [h2]; simp
    · rw [List.length_append, h3]; simp; omega
theorem mid_facts0 {x y : Int} (h : x < y) : x ≤ (x + y).fdiv (2 ^ Int.toNat 1) ∧ (x + y).fdiv (2 ^ Int.toNat 1) < y := by
  rw [show (2 : Int) ^ Int.toNat 1 = 2 from rfl, Int.fdiv_eq_ediv_of_nonneg _ (by decide)]
  omega
theorem shift_facts0 {m x : Int} {n k : Nat} (h : x ≤ m) (h2 : m - x ≤ k) (hk : k ≤ 30) (hn : n ≤ 30) : 0 ≤ (m - x) * (n : Int) ∧ (m - x) * (n : Int) ≤ 1000000 := by
  constructor
  · exact Int.mul_nonneg (by omega) (by omega)
  · have : (m - x) * (n : Int) ≤ 30 * 30 := Int.mul_le_mul (by omega) (by omega) (by omega) (by decide)
    omega
/-- the two halves of a number's digits -/
theorem half_facts {x : Int} {n : Nat} {i m j : Int} (h0 : 0 ≤ x) (h : x < 2 ^ ((j - i).toNat * n)) (h1 : i < m) (h2 : m < j) :
    0 ≤ Builtin.bitXor x (x.fdiv (2 ^ ((m - i) * (n : Int)).toNat) * 2 ^ ((m - i) * (n : Int)).toNat) ∧ Builtin.bitXor x (x.fdiv (2 ^ ((m - i) * (n : Int)).toNat) * 2 ^ ((m - i) * (n : Int)).toNat) < 2 ^ ((m - i).toNat * n) ∧
    0 ≤ x.fdiv (2 ^ ((m - i) * (n : Int)).toNat) ∧ x.fdiv (2 ^ ((m - i) * (n : Int)).toNat) < 2 ^ ((j - m).toNat * n) ∧
    dig n (m - i).toNat (Builtin.bitXor x (x.fdiv (2 ^ ((m - i) * (n : Int)).toNat) * 2 ^ ((m - i) * (n : Int)).toNat)) ++ dig n (j - m).toNat (x.fdiv (2 ^ ((m - i) * (n : Int)).toNat)) = dig n (j - i).toNat x := by
  have e3 : ((m - i) * (n : Int)).toNat = (m - i).toNat * n := by
    have : ((m - i).toNat : Int) = m - i := by omega
    rw [← this, ← Int.natCast_mul, Int.toNat_natCast, this]
  have hp := two_pow_pos ((m - i).toNat * n)
  rw [e3, xor_low x _ h0, Int.fdiv_eq_ediv_of_nonneg _ (by omega)]
  refine ⟨Int.emod_nonneg _ (by omega), Int.emod_lt_of_pos _ hp, Int.ediv_nonneg h0 (by omega), Int.ediv_lt_of_lt_mul hp ?_, ?_⟩
  · rw [← Int.pow_add, ← Nat.add_mul, show (j - m).toNat + (m - i).toNat = (j - i).toNat by omega]
    exact h
  · rw [← dig_split, show (m - i).toNat + (j - m).toNat = (j - i).toNat by omega]
theorem small_fdiv {x : Int} {k e : Nat} (h0 : 0 ≤ x) (h : x < 2 ^ e) (he : e ≤ 60) : (x.fdiv (2 ^ k)).natAbs < 2 ^ 64 := by
  have hp := two_pow_pos k
  rw [Int.fdiv_eq_ediv_of_nonneg _ (by omega)]
  have h1 : 0 ≤ x / 2 ^ k := Int.ediv_nonneg h0 (by omega)
  have h2 : x / 2 ^ k ≤ x := Int.ediv_le_self _ h0
  have hq : (2 : Int) ^ e ≤ 2 ^ 60 := by
    have := Nat.pow_le_pow_right (n := 2) (by decide) he
    exact_mod_cast this
  have : (2 : Int) ^ 60 < 2 ^ 64 := by decide
  omega
theorem dp_bits {b r d : Int} {n : Nat} (hb2 : b < 1073741824) (hn : n ≤ 30) (r0 : 0 ≤ r) (r1 : r < b) (d0 : 0 ≤ d) (d1 : d < 2 ^ n) : (Builtin.Int.intBits (r * 2 ^ (n : Int).toNat + d) : Int) - (n : Int) ≤ 4000 := by
  rw [Int.toNat_natCast]
  have hp := two_pow_pos n
  have h30 : (2 : Int) ^ n ≤ 2 ^ 30 := by
    have := Nat.pow_le_pow_right (n := 2) (by decide) hn
    exact_mod_cast this
  have h1 : 0 ≤ r * 2 ^ n := Int.mul_nonneg r0 (by omega)
  have h2 : r * 2 ^ n ≤ 1073741824 * 2 ^ 30 := Int.mul_le_mul (by omega) h30 (by omega) (by decide)
  have := bits_le (a := r * 2 ^ n + d) (k := 61) (by omega) (by omega)
  omega
theorem div_uniq {a b q r : Int} (hb : 0 < b) (h : a = q * b + r) (h0 : 0 ≤ r) (h1 : r < b) : q = a.fdiv b ∧ r = a.fmod b := by
  rw [Int.fdiv_eq_ediv_of_nonneg _ (by omega), Int.fmod_eq_emod_of_nonneg _ (by omega), h, Int.add_comm (q * b) r, Int.add_mul_ediv_right _ _ (by omega), Int.add_mul_emod_self_right, Int.ediv_eq_zero_of_lt h0 h1, Int.emod_eq_of_lt h0 h1]
  omega
theorem DigOk.reverse {n : Nat} {ds : List Int} (h : DigOk n ds) : DigOk n ds.reverse := fun d hd => h d (List.mem_reverse.mp hd)
theorem room_rev {vq : List Value} {qs : List Int} (h : IntsAre vq qs) (hl : qs.length ≤ 30) : vq.toArray.toList.length ≤ sizeLine := by
  have := h.length
  rw [sizeLine_eq]
  show vq.length ≤ _
  omega
theorem inv_facts {a b : Int} (hb : 0 < b) : Builtin.bitNot ((Builtin.bitNot a).fdiv b) = a.fdiv b ∧ b + Builtin.bitNot ((Builtin.bitNot a).fmod b) = a.fmod b := by
  have h0 := Int.emod_nonneg (Builtin.bitNot a) (b := b) (by omega)
  have h1 := Int.emod_lt_of_pos (Builtin.bitNot a) hb
  have h2 := Int.mul_ediv_add_emod (Builtin.bitNot a) b
  refine div_uniq hb ?_ ?_ ?_
  · rw [Int.fdiv_eq_ediv_of_nonneg _ (by omega), Int.fmod_eq_emod_of_nonneg _ (by omega)]
    unfold Builtin.bitNot at *
    generalize (-a - 1) / b = q at *
    generalize (-a - 1) % b = r at *
    have e : (-q - 1) * b = -(b * q) - b := by rw [Int.sub_mul, Int.one_mul, Int.neg_mul, Int.mul_comm q b]
    omega
  · rw [Int.fmod_eq_emod_of_nonneg _ (by omega)]
    generalize Builtin.bitNot a % b = r at *
    unfold Builtin.bitNot
    omega
  · rw [Int.fmod_eq_emod_of_nonneg _ (by omega)]
    generalize Builtin.bitNot a % b = r at *
    unfold Builtin.bitNot
    omega
theorem bitNot_range {a : Int} (h : -1000000000 < a) (h2 : a < 0) : 0 ≤ Builtin.bitNot a ∧ Builtin.bitNot a < 2 ^ 30 := by
  unfold Builtin.bitNot
  omega

set_option maxRecDepth 100000
set_option maxHeartbeats 2000000
section
variable {prog : Program} {w : World} {A : Around} {E : Value → Shared → Prop} {s : Shared} {env : Env} {h₀ : Heap} {x : Str} {body : List Stmt} {Q : Flow → Shared → Prop} {I : Addr} {lp : Addr × Obj}
theorem rev_inv {Inv : List Value → (Str → Option Value) → List (Addr × Obj) → Prop}
    (turn : ∀ v r m news, Inv (v :: r) m news → ∀ (it : Obj) (h : Heap) (tk : Nat), it.cls = .type "list_reverseiterator" → Fr h₀ env.locals h (fun y => if y = x then some v else m y) → News h₀ env.locals h ((I, it) :: news) →
      wpAny (model prog w) A (execs body env) (UnrPost h₀ env.locals { s with heap := h, toks := tk } I it (fun m' n' => lp ∈ n' ∧ Inv r m' n') Q) E { s with heap := h, toks := tk })
    (done : ∀ m news, Inv [] m news → ∀ (h : Heap) (tk : Nat), Fr h₀ env.locals h m → News h₀ env.locals h news → Q .next { s with heap := h, toks := tk }) :
    ∀ (rest : List Value) (m : Str → Option Value) (news : List (Addr × Obj)), Inv rest m news → RevRest prog w A E h₀ env x body Q s I lp rest m news
  | [], m, news, hJ => RevRest.zero (done m news hJ)
  | v :: r, m, news, hJ => RevRest.succ fun it h tk hc F N => by
    refine wpAny_mono (turn v r m news hJ it h tk hc F N) (fun f s₂ p => ?_) fun _ _ e => e
    have fin : UnrEnd h₀ env.locals { s with heap := h, toks := tk } I it (fun m' n' => lp ∈ n' ∧ Inv r m' n') s₂ → UnrEnd h₀ env.locals { s with heap := h, toks := tk } I it (fun m' n' => lp ∈ n' ∧ RevRest prog w A E h₀ env x body Q s I lp r m' n') s₂ := by
      rintro ⟨h', tk', m', n', e, F', N', o, hm, hJ'⟩
      exact ⟨h', tk', m', n', e, F', N', o, hm, rev_inv turn done r m' n' hJ'⟩
    cases f with
    | ret v => exact p
    | brk => exact p
    | next => exact fin p
    | cont => exact fin p
end
abbrev DpM (m₀ : Str → Option Value) (r : Int) (tr : Tok) (oq oa : Option Value) : Str → Option Value :=
  fun y => if y = Str.ofString "r" then some (.int r tr) else if y = Str.ofString "q_digit" then oq else if y = Str.ofString "a_digit" then oa else m₀ y
def DpEnd (n : Nat) (b : Int) (m₀ : Str → Option Value) (lq : Addr) (rest : List (Addr × Obj)) (d r : Int) (qs : List Int) (m' : Str → Option Value) (n' : List (Addr × Obj)) : Prop :=
  ∃ vq' cq' tr' oq oa, m' = DpM m₀ ((r * 2 ^ n + d).fmod b) tr' oq oa ∧ n' = (lq, listOf vq'.toArray cq') :: rest ∧ IntsAre vq' (qs ++ [(r * 2 ^ n + d).fdiv b])
theorem dpm_start {m₀ : Str → Option Value} {t0 : Tok} (h : m₀ (Str.ofString "r") = some (.int 0 t0)) : m₀ = DpM m₀ 0 t0 (m₀ (Str.ofString "q_digit")) (m₀ (Str.ofString "a_digit")) := by
  funext y
  unfold DpM
  by_cases h1 : y = Str.ofString "r"
  · rw [if_pos h1, h1, h]
  · rw [if_neg h1]
    by_cases h2 : y = Str.ofString "q_digit"
    · rw [if_pos h2, h2]
    · rw [if_neg h2]
      by_cases h3 : y = Str.ofString "a_digit"
      · rw [if_pos h3, h3]
      · rw [if_neg h3]
theorem dpm_turn {m₀ : Str → Option Value} {r r' : Int} {tr tr' : Tok} {oq oa : Option Value} {vq va : Value} :
    (fun y => if y = Str.ofString "r" then some (Value.int r' tr') else if y = Str.ofString "q_digit" then some vq else if y = Str.ofString "a_digit" then some va else DpM m₀ r tr oq oa y) = DpM m₀ r' tr' (some vq) (some va) := by
  funext y
  unfold DpM
  by_cases h1 : y = Str.ofString "r"
  · simp only [h1, if_true]
  · by_cases h2 : y = Str.ofString "q_digit"
    · simp only [h1, h2, if_true, if_false]
    · by_cases h3 : y = Str.ofString "a_digit"
      · simp only [h1, h2, h3, if_true, if_false]
      · simp only [h1, h2, h3, if_false]
theorem dp_unr {h₀ h' : Heap} {L I lq : Addr} {it : Obj} {s₁ : Shared} {tk : Nat} {m₀ : Str → Option Value} {n : Nat} {b d r : Int} {tr tr' tq : Tok} {oq oa : Option Value} {va : Value} {qs : List Int} {vq : List Value} {cq' : Nat} {rest all : List (Addr × Obj)}
    (F : Fr h₀ L h' (fun y => if y = Str.ofString "r" then some (Value.int ((r * 2 ^ (n : Int).toNat + d).fmod b) tr') else if y = Str.ofString "q_digit" then some (Value.int ((r * 2 ^ (n : Int).toNat + d).fdiv b) tq) else if y = Str.ofString "a_digit" then some va else DpM m₀ r tr oq oa y))
    (N : News h₀ L h' all) (hI : (I, it) ∈ all) (hl : (lq, listOf (vq.toArray.push (Value.int ((r * 2 ^ (n : Int).toNat + d).fdiv b) tq)) cq') ∈ all) (sub : ∀ p ∈ rest, p ∈ all) (o1 : ∀ p ∈ rest, p.1 ≠ I) (o2 : lq ≠ I) (i : IntsAre vq qs) :
    UnrEnd h₀ L s₁ I it (DpEnd n b m₀ lq rest d r qs) { s₁ with heap := h', toks := tk } := by
  rw [Int.toNat_natCast] at F hl
  have e : vq.toArray.push (Value.int ((r * 2 ^ n + d).fdiv b) tq) = (vq ++ [Value.int ((r * 2 ^ n + d).fdiv b) tq]).toArray := by simp
  rw [e] at hl
  refine UnrEnd.intro F N ((lq, listOf (vq ++ [Value.int ((r * 2 ^ n + d).fdiv b) tq]).toArray cq') :: rest) (fun p hp => ?_) (fun p hp => ?_) ⟨_, _, _, _, _, dpm_turn, rfl, IntsAre.append i (.cons _ _ .nil)⟩
  · rcases List.mem_cons.mp hp with rfl | hp
    · exact hI
    · rcases List.mem_cons.mp hp with rfl | hp
      · exact hl
      · exact sub p hp
  · rcases List.mem_cons.mp hp with rfl | hp
    · exact o2
    · exact o1 p hp
/-- one digit of the long division -/
theorem dp_step {n : Nat} {b d r : Int} (hb : 0 < b) (hd0 : 0 ≤ d) (hd : d < 2 ^ n) (hr0 : 0 ≤ r) (hr : r < b) :
    0 ≤ (r * 2 ^ n + d).fdiv b ∧ (r * 2 ^ n + d).fdiv b < 2 ^ n ∧ 0 ≤ (r * 2 ^ n + d).fmod b ∧ (r * 2 ^ n + d).fmod b < b ∧ r * 2 ^ n + d = (r * 2 ^ n + d).fdiv b * b + (r * 2 ^ n + d).fmod b := by
  have hp := two_pow_pos n
  have h1 : 0 ≤ r * 2 ^ n := Int.mul_nonneg hr0 (by omega)
  rw [Int.fdiv_eq_ediv_of_nonneg _ (by omega), Int.fmod_eq_emod_of_nonneg _ (by omega)]
  refine ⟨Int.ediv_nonneg (by omega) (by omega), Int.ediv_lt_of_lt_mul hb ?_, Int.emod_nonneg _ (by omega), Int.emod_lt_of_pos _ hb, ?_⟩
  · have h2 : (r + 1) * 2 ^ n ≤ b * 2 ^ n := Int.mul_le_mul_of_nonneg_right (by omega) (by omega)
    rw [Int.add_mul, Int.one_mul] at h2
    rw [Int.mul_comm (2 ^ n) b]
    omega
  · have := Int.mul_ediv_add_emod (r * 2 ^ n + d) b
    rw [Int.mul_comm] at this
    omega
theorem dval_rev_snoc (n : Nat) (P : List Int) (d : Int) : dval n (P ++ [d]).reverse = d + 2 ^ n * dval n P.reverse := by
  rw [List.reverse_append]; rfl
section
variable {prog : Program} {w : World} {A : Around} {E : Value → Shared → Prop} {s : Shared} {env : Env} {h₀ : Heap} {body : List Stmt} {Q : Flow → Shared → Prop} {I la lq : Addr} {va : List Value} {ca : Nat} {ds : List Int} {news : List (Addr × Obj)} {g : Obj → List (Addr × Obj)}
  {m₀ : Str → Option Value} {b : Int} {n : Nat} {t0 : Tok}
theorem dp_loop (hh : A.handled = none) (F : Fr h₀ env.locals s.heap m₀) (N : News h₀ env.locals s.heap ((I, revObj la ((va.length : Int) - 1)) :: news)) (hI : ∀ p ∈ news, p.1 ≠ I)
    (hla : (la, listOf va.toArray ca) ∈ news) (hi : IntsAre va ds) (U : UpdF lq (listOf ([] : List Value).toArray 0) news g) (hne : la ≠ lq) (hr : m₀ (Str.ofString "r") = some (.int 0 t0)) (hdig : DigOk n ds) (hb : 0 < b)
    (done : ∀ (qs : List Int) (vq : List Value) (cq : Nat) (r : Int) (tr : Tok) (oq oa : Option Value) (h : Heap) (tk : Nat), IntsAre vq qs → DigOk n qs → qs.length = ds.length → dval n ds = dval n qs.reverse * b + r → 0 ≤ r → r < b →
      Fr h₀ env.locals h (DpM m₀ r tr oq oa) → News h₀ env.locals h (g (listOf vq.toArray cq)) → Q .next { s with heap := h, toks := tk })
    (turn : Later (∀ rest : List (Addr × Obj), (∀ p ∈ rest, p.1 ≠ lq) → (∀ p ∈ rest, p.1 ≠ I) → lq ≠ I →
      ∀ (d : Int) (td : Tok) (qs : List Int) (vq : List Value) (cq : Nat) (r : Int) (tr : Tok) (oq oa : Option Value) (it : Obj) (h : Heap) (tk : Nat), it.cls = .type "list_reverseiterator" → IntsAre vq qs → qs.length < ds.length → 0 ≤ d → d < 2 ^ n → 0 ≤ r → r < b →
      Fr h₀ env.locals h (fun y => if y = Str.ofString "a_digit" then some (.int d td) else DpM m₀ r tr oq oa y) → News h₀ env.locals h ((I, it) :: (lq, listOf vq.toArray cq) :: rest) →
      wpAny (model prog w) A (execs body env) (UnrPost h₀ env.locals { s with heap := h, toks := tk } I it (DpEnd n b m₀ lq rest d r qs) Q) E { s with heap := h, toks := tk })) :
    wpAny (model prog w) A (pyIter (.ref I)) (fun it s₂ => LoopAtV prog w A h₀ env (Str.ofString "a_digit") body Q E it s₂) E s := by
  unfold Later at turn
  obtain ⟨rest, r1, r2, r3, r4, r5⟩ := front (news' := news) U
  have hlaR : (la, listOf va.toArray ca) ∈ rest := r3 _ hne hla
  have hlI : lq ≠ I := hI _ r4
  have N2 : News h₀ env.locals s.heap ((I, revObj la ((va.length : Int) - 1)) :: (lq, listOf ([] : List Value).toArray 0) :: rest) := fun p hp => by
    rcases List.mem_cons.mp hp with rfl | hp
    · exact N _ (.head _)
    · rcases List.mem_cons.mp hp with rfl | hp
      · exact N _ (.tail _ r4)
      · exact N _ (.tail _ (r2 _ hp))
  let Inv : List Value → (Str → Option Value) → List (Addr × Obj) → Prop := fun vr m' n' => ∃ (P dr qs : List Int) (vq : List Value) (cq : Nat) (r : Int) (tr : Tok) (oq oa : Option Value),
    IntsAre vr dr ∧ P ++ dr = ds.reverse ∧ m' = DpM m₀ r tr oq oa ∧ n' = (lq, listOf vq.toArray cq) :: rest ∧ IntsAre vq qs ∧ DigOk n qs ∧ qs.length = P.length ∧ dval n P.reverse = dval n qs.reverse * b + r ∧ 0 ≤ r ∧ r < b
  have hoffN : ∀ o, ∀ p ∈ (lq, o) :: rest, p.1 ≠ I := fun o p hp => by
    rcases List.mem_cons.mp hp with rfl | hp
    · exact hlI
    · exact hI p (r2 p hp)
  have hoff : OffI I (revObj la ((va.length : Int) - 1)) ((lq, listOf ([] : List Value).toArray 0) :: rest) := by
    have : ∀ l : List (Addr × Obj), (∀ p ∈ l, p.1 ≠ I) → OffI I (revObj la ((va.length : Int) - 1)) l := by
      intro l
      induction l with
      | nil => intro _; trivial
      | cons p l ih => intro h; exact ⟨.inl (h p (.head _)), ih fun q hq => h q (.tail _ hq)⟩
    exact this _ (hoffN _)
  refine iter_revUnr (lo := listOf va.toArray ca) (n := ca) hh F N2 hoff (.tail _ hlaR) rfl rfl (rev_inv (Inv := Inv) ?_ ?_ _ _ _ ?_)
  · rintro v r9 m9 n9 ⟨P, dr, qs, vq, cq, r, tr, oq, oa, i1, i2, rfl, rfl, i5, i6, i7, i8, i9, i10⟩ it h tk hc F9 N9
    cases i1 with
    | @cons d td vs' dr' i1 =>
    have hdm : d ∈ ds := List.mem_reverse.mp (i2 ▸ List.mem_append_right _ (.head _))
    have hdd := hdig d hdm
    have hlen : P.length + (dr'.length + 1) = ds.length := by
      have := congrArg List.length i2
      simpa using this
    refine wpAny_mono (turn rest r1 (fun p hp => hI p (r2 p hp)) hlI d td qs vq cq r tr oq oa it h tk hc i5 (by omega) hdd.1 hdd.2 i9 i10 F9 N9) (fun f s₂ p => ?_) fun _ _ e => e
    have hs := dp_step (n := n) hb hdd.1 hdd.2 i9 i10
    have fin : UnrEnd h₀ env.locals { s with heap := h, toks := tk } I it (DpEnd n b m₀ lq rest d r qs) s₂ → UnrEnd h₀ env.locals { s with heap := h, toks := tk } I it (fun m' n' => (la, listOf va.toArray ca) ∈ n' ∧ Inv r9 m' n') s₂ := by
      rintro ⟨h', tk', m', n', e, F', N', o, vq', cq', tr', oq', oa', rfl, rfl, hI'⟩
      refine ⟨h', tk', _, _, e, F', N', o, .tail _ hlaR, P ++ [d], dr', qs ++ [(r * 2 ^ n + d).fdiv b], vq', cq', _, tr', oq', oa', i1, by rw [List.append_assoc]; exact i2, rfl, rfl, hI', ?_, ?_, ?_, hs.2.2.1, hs.2.2.2.1⟩
      · intro e he
        rcases List.mem_append.mp he with he | he
        · exact i6 e he
        · rw [List.mem_singleton.mp he]; exact ⟨hs.1, hs.2.1⟩
      · simp [i7]
      · rw [dval_rev_snoc, dval_rev_snoc, i8]
        have h5 := hs.2.2.2.2
        generalize (r * 2 ^ n + d).fdiv b = q at *
        generalize (r * 2 ^ n + d).fmod b = r' at *
        have e1 : (q + 2 ^ n * dval n qs.reverse) * b = q * b + 2 ^ n * dval n qs.reverse * b := Int.add_mul ..
        have e2 : (2 : Int) ^ n * (dval n qs.reverse * b + r) = 2 ^ n * dval n qs.reverse * b + r * 2 ^ n := by rw [Int.mul_add, Int.mul_assoc, Int.mul_comm (2 ^ n) r]
        omega
    cases f with
    | ret v => exact p
    | brk => exact p
    | next => exact fin p
    | cont => exact fin p
  · rintro m9 n9 ⟨P, dr, qs, vq, cq, r, tr, oq, oa, i1, i2, rfl, rfl, i5, i6, i7, i8, i9, i10⟩ h tk F9 N9
    cases i1
    rw [List.append_nil] at i2
    subst i2
    refine done qs vq cq r tr oq oa h tk i5 i6 (by rw [i7, List.length_reverse]) (by rw [← i8, List.reverse_reverse]) i9 i10 F9 (fun p hp => N9 p (r5 _ p hp))
  · refine ⟨[], ds.reverse, [], [], 0, 0, t0, m₀ (Str.ofString "q_digit"), m₀ (Str.ofString "a_digit"), IntsAre.reverse hi, rfl, dpm_start hr, rfl, .nil, fun e he => (nomatch he), rfl, by simp [dval], Int.le_refl _, hb⟩
end

set_option maxRecDepth 100000
set_option maxHeartbeats 2000000
section
variable {prog : Program} {w : World} {K : Frag} {loose : List Str} {mean : ExcName → Option Value} {mg mb : Str → Option Value} {f : Addr} {news : List (Addr × Obj)} {dep : Nat} {vs : List Value}
    {R : Heap → Addr → (Str → Option Value) → Shared → (Value → Shared → Prop) → Prop}
theorem cl_go (Ci : Cl prog w K loose mean mg mb f news dep vs R)
    {dp un : Nat} {gd : Option (List Code)} {cn : Str} {cs : Scope} {a : Addr} {ccd : Value} {cl : List (Str × Addr)} {outer : List Env} {A₀ : Around} {base h₀ : Heap} {L : Addr} {m : Str → Option Value} {s : Shared} {Q E : Value → Shared → Prop}
    (B : Below A₀ base outer h₀) (F : Fr h₀ L s.heap m) (X : K.In h₀) (Ne : News h₀ L s.heap news) (T : Top topProg loose mean mg mb h₀) (hk : cs.kind = .function) (C1 : CodeHd base 41 37) (C2 : CodeHd base 34 30)
    (h1 : dp + dep < recursionLimit) (h2 : un + 8 * dep < cLine) (h3 : R h₀ L m s Q) :
    wpAny (model prog w) (ktrTop dp un gd cn cs L a ccd cl outer) (call (.ref f) vs) Q E s :=
  Ci dp un gd cn cs a ccd cl outer A₀ base h₀ L m s Q E B F X Ne T hk C1 C2 h1 h2 h3
end
theorem cons30 {news : List (Addr × Obj)} {o : Obj} (h : Apart news) : ∀ p ∈ ((37, o) : Addr × Obj) :: news, p.1 ≠ 30 := fun p hp => by
  rcases List.mem_cons.mp hp with rfl | hp
  · show (37 : Nat) ≠ 30
    decide
  · exact (h p hp).1

section
local macro_rules | `(tactic| walk_at "call builtin:divmod") => `(tactic| (k_here; (refine' divmod_my ?k1 ?k2 ?k3 ?k4 ?_; (case k1 => k_asm); (case k2 => k_asm); (case k3 => first | assumption | omega); (case k4 => first | assumption | omega)); k_whole; intro D' h' F' N' l1; (try k_sweep)))
set_option maxRecDepth 100000
set_option maxHeartbeats 2000000
theorem d21_spec {w : World} {loose : List Str} {mean : ExcName → Option Value} {mg mb : Str → Option Value} {news : List (Addr × Obj)} {a b n : Int} {t1 t2 t3 : Tok}
    (hb : 0 < b) (hb2 : b < 1073741824) (hn : (Builtin.Int.intBits a : Int) - n ≤ 4000) :
    Cl PySem.Challenge.rw_rl0041_01.row.prog w (hd.heap_39 w.params) loose mean mg mb 21 news 1 [.int a t1, .int b t2, .int n t3] (RetTup news (Int.fdiv a b) (Int.fmod a b)) := by
  w_strict (
  w_top off
  k_fill
  dsimp only [Cl, RetTup]; intros; rename_i hret
  refine wpAny_call ?_
  k_dflt cell_enter
  k_steps
  (refine' hret _ _ _ _ _ _ ?eF ?eN ?eL; (case eN => k_asm); (case eF => k_asm); (case eL => k_asm)))
end

local macro_rules | `(tactic| k_all) => `(tactic| first | assumption | exact ne30 (by assumption) | exact ne37 (by assumption) | exact neLt (by assumption) | exact neS (by assumption) | exact neSS (by assumption) | exact neSSS (by assumption))
local macro_rules | `(tactic| k_lt $h) => `(tactic| (replace $h := allLt_of $h; (try simp only [AllLt, and_true] at $h:ident); repeat (have hL := And.left $h; replace $h := And.right $h)))
local macro_rules | `(tactic| k_mem) => `(tactic| assumption)
local macro_rules | `(tactic| k_room) => `(tactic| ktr_room)
local macro_rules | `(tactic| k_enter) => `(tactic| (refine' code_defC ?k1 ?k2 ?k3 ?k4 ?k5 ?kA ?kF ?kK ?k6 ?k7 ?k8 ?k9 ?kB ?kD ?_ ?c2 ?c3 ?c4; (case kA => exact rfl); (case kF => exact rfl); (case kK => first | assumption | exact rfl); (case k1 => k_asm); (case k2 => k_asm); (case k3 => k_asm); (case k4 => k_asm); (case k5 => k_asm); (case k6 => k_is); (case k7 => k_is); (case k8 => ktr_room); (case k9 => exact BindsTo.of_eq rfl); (case kB => exact rfl); (case kD => decide +kernel); (case c2 => exact rfl); (case c3 => exact rfl); (case c4 => exact rfl); k_whole; intro g' L' h' tk' cells' FG' F' N' Y' B' X' T' l1; (try k_lt l1); k_cells Y'; (try simp only [List.cons_append, List.nil_append] at N'); (try dsimp only); (try k_lift B'); (try k_fold)))
local macro_rules | `(tactic| kn_enter) => `(tactic| (refine' code_nest ?k1 ?k2 ?k3 ?k4 ?k5 ?kA ?kF ?kK ?k6 ?k7 ?k8 ?k9 ?kB ?_ ?c2 ?c3 ?c4 ?c5; (case kA => exact rfl); (case kF => exact rfl); (case kK => first | assumption | exact rfl); (case k1 => k_asm); (case k2 => k_asm); (case k3 => k_asm); (case k4 => k_asm); (case k5 => k_asm); (case k6 => k_mem); (case k7 => exact codeRec_news (by k_asm) (by k_mem) (by assumption) (by assumption)); (case k8 => ktr_room); (case k9 => exact BindsTo.of_eq rfl); (case c5 => decide); (case kB => exact locs rfl); (case c2 => exact rfl); (case c3 => exact rfl); (case c4 => exact rfl); k_whole; intro g' L' h' FG' F' N' B' X' T'; (try dsimp only); (try k_lift B'); (try k_fold)))
local macro_rules | `(tactic| walk_at "call builtin:len") => `(tactic| (k_here; k_dflt (refine' len_my ?k1 ?k2 ?k3 ?k4 ?_; (case k1 => k_asm); (case k2 => k_mem); (case k3 => assumption); (case k4 => omega); k_whole)))
local macro_rules | `(tactic| walk_at "truthy ref") => `(tactic| (k_here; k_dflt (refine' truthy_my ?k1 ?k2 ?k3 ?k4 ?_; (case k1 => k_asm); (case k2 => k_mem); (case k3 => assumption); (case k4 => omega); k_whole)))
local macro_rules | `(tactic| k_steps) => `(tactic| repeat' (first | (k_unfold; (try dsimp only)) | (k_end; wrow_close) | ((fail_if_success (with_reducible show wpAny _ _ (call (Value.ref _) _) _ _ _)); (fail_if_success (with_reducible show wpAny _ _ (pyIter (Value.ref _)) _ _ _)); (fail_if_success (with_reducible show UnrEnd _ _ _ _ _ _ _)); (fail_if_success (with_reducible show LCg.CompSrc _ _ _ _ _ _ _ _ _ _ _ _ _ _)); (fail_if_success (with_reducible show LCt.CompSrcT _ _ _ _ _ _ _ _ _ _ _ _ _ _ _)); (fail_if_success (with_reducible show LCg.CompRest _ _ _ _ _ _ _ _ _ _ _ _ _ _ _ _ _ _ _)); (fail_if_success (with_reducible show KswPost _ _ _ _ _ _ _ _ _ _ _ _ _ _)); (fail_if_success (with_reducible show wpAny _ _ (exec (Stmt.Assign _ (Expr.ListComp (Expr.Subscript _ _ _) _ _ _) _) _) _ _ _)); (fail_if_success (with_reducible show wpAny _ _ (eval (Expr.ListComp (Expr.BinOp _ Operator.Pow _ _) _ _ _) _) _ _ _)); (fail_if_success (with_reducible show wpAny _ _ (subscriptTail (Expr.List _ _) _ (Value.ref _) (Value.int (Int.fmod _ _) _)) _ _ _)); (fail_if_success (with_reducible show wpAny _ _ (exec (Stmt.While _ _ _ _) _) _ _ _)); (fail_if_success (with_reducible show wpAny _ _ (exec (Stmt.For _ (Expr.Name _ _) _ _ _) _) _ _ _)); (fail_if_success (with_reducible show wpAny _ _ (exec (Stmt.For _ (Expr.Call _ [_, _] _ _) _ _ _) _) _ _ _)); first | walk1 | (dsimp only; walk1) | (leave1; walk_say "STEP leave1"; try dsimp only)) | fail "no step"))
set_option maxRecDepth 100000
set_option maxHeartbeats 2000000

theorem dg_miss {w : World} {loose : List Str} {mean : ExcName → Option Value} {mg mb : Str → Option Value} {news : List (Addr × Obj)} {n : Nat} {t2 : Tok} {vs : List Value} {ds : List Int} {l : Addr} {c : Nat}
    (hi : IntsAre vs ds) (hl : ds.length ≤ 30) (hn : 0 < n ∧ n ≤ 30) (hap : ∀ p ∈ news, p.1 ≠ 37) (hlm : (l, listOf vs.toArray c) ∈ news) (hdig : DigOk n ds) (hsz : ds.length * n ≤ 60) :
    Cl PySem.Challenge.rw_rl0041_01.row.prog w (hd.heap_39 w.params) loose mean mg mb 42 ((37, tabObj #[]) :: news) 40 [.ref l, .int (n : Int) t2]
    (fun h₀ L m s Q => ∀ (t : Tok) (h' : Heap) (tk' : Nat) (c1 : Addr) (oc1 : Obj) (vs1 : Array Value) (tq : Tok), Fr h₀ L h' m → News h₀ L h' ((c1, oc1) :: (37, tabObj #[rawInt 47, rawInt 4, .ref c1]) :: news) →
      oc1.data = .fields vs1 → vs1[1]? = some (.str (Str.ofString "_digits2int.<locals>.inner") tq) → 37 < c1 → (∀ p ∈ news, p.1 < c1) → Q (.int (dval n ds) t) { s with heap := h', toks := tk' }) := by
  w_strict (
  w_top off
  k_fill
  dsimp only [Cl]; intros; rename_i hret
  refine wpAny_call ?_
  k_dflt k_enter
  k_steps
  all_goals try (
    (rw [show (0 : Int) = dval n ds by rw [List.eq_nil_of_length_eq_zero (l := ds) (by omega)]; rfl])
    (refine' hret _ _ _ _ _ _ _ ?eF ?eN ?e1 ?e2 ?e3 ?e4; (case e1 => assumption); (case eF => k_asm); (case eN => (refine' cb_drop ?cbN ?cbS; (case cbN => k_asm); (case cbS => ((repeat (refine List.forall_mem_cons.mpr ⟨by k_mem, ?_⟩)); intro p hp; repeat (first | exact hp | refine List.Mem.tail _ ?_))))); (case e2 => exact Eq.trans (by assumption) (congrArg (fun q => some (Value.str q _)) (by kernel_rfl))); (case e3 => omega); (case e4 => exact ltAll (by assumption))))
  (k_dflt (refine' in2_use ?k1 ?k2 ?k3 ?k4 ?k5 ?k6 ?k7 ?m1 ?m2 ?m3 ?m4 ?m5 ?m6 ?g1 ?g2 ?g3 ?g4 ?g5 ?g6 ?n1 ?n2 ?n3 ?n4 ?_ ?st; (case k1 => k_asm); (case k2 => k_asm); (case k3 => k_asm); (case k4 => k_asm); (case k5 => k_asm); (case k6 => first | assumption | exact rfl); (case k7 => assumption); (case m1 => k_mem);  (case m2 => k_mem); (case m3 => k_mem); (case m4 => k_mem); (case m5 => k_mem)))
  (case g1 => assumption)
  (case g2 => assumption)
  (case g3 => assumption)
  (case g4 => assumption)
  (case g5 => assumption)
  (case m6 => k_mem)
  (case g6 => assumption)
  (case n1 => omega)
  (case n2 => omega)
  (case n3 => ktr_room)
  (case n4 => ktr_units)
  (case st =>
    unfold Later
    intro g1 g2 g3 g4 g5 g6 N ih
    unfold In2
    intro dp un gd cn cs a ccd cl outer A₀ base h₀ Lf m s Q E news' x y tx ty B F X Ne T hk C h1 h2 h3 h4 h5 h6 h7 h8 h9 h10 h11 h12 hret2
    refine wpAny_call ?_
    k_dflt kn_enter
    k_steps
    · rw [one_val (n := n) h7 (by assumption) h9]
      (refine' hret2 _ _ _ ?eF ?eN; (case eF => k_asm); (case eN => k_asm))
    · have hm := mid_facts h8 (by assumption)
      have hsh := shift_facts (n := n) (k := ds.length) (m := (x + y).fdiv (2 ^ Int.toNat 1)) hm.1 (by omega) hl hn.2
      have hb := part_bound hdig hsz ((x + y).fdiv (2 ^ Int.toNat 1)).toNat (y - (x + y).fdiv (2 ^ Int.toNat 1)).toNat
      (k_dflt (refine' in2_go ih ?k1 ?k2 ?k3 ?k4 ?k5 ?k6 ?k7 ?m1 ?m2 ?m3 ?m4 ?m5 ?m6 ?n1 ?n2 ?n3 ?n4 ?n5 ?n6 ?_; (case k1 => k_asm); (case k2 => k_asm); (case k3 => k_asm); (case k4 => k_asm); (case k5 => k_asm); (case k6 => first | assumption | exact rfl); (case k7 => assumption); (case m1 => k_mem); (case m2 => k_mem); (case m3 => k_mem); (case m4 => k_mem); (case m5 => k_mem); (case m6 => k_mem); (case n1 => omega); (case n2 => omega); (case n3 => omega); (case n4 => omega); (case n5 => ktr_room); (case n6 => ktr_units)))
      intro t' h' tk' F' N'
      dsimp only
      k_steps
      (k_dflt (refine' in2_go ih ?k1 ?k2 ?k3 ?k4 ?k5 ?k6 ?k7 ?m1 ?m2 ?m3 ?m4 ?m5 ?m6 ?n1 ?n2 ?n3 ?n4 ?n5 ?n6 ?_; (case k1 => k_asm); (case k2 => k_asm); (case k3 => k_asm); (case k4 => k_asm); (case k5 => k_asm); (case k6 => first | assumption | exact rfl); (case k7 => assumption); (case m1 => k_mem); (case m2 => k_mem); (case m3 => k_mem); (case m4 => k_mem); (case m5 => k_mem); (case m6 => k_mem); (case n1 => omega); (case n2 => omega); (case n3 => omega); (case n4 => omega); (case n5 => ktr_room); (case n6 => ktr_units)))
      intro t' h' tk' F' N'
      dsimp only
      k_steps
      rw [split_val (n := n) (ds := ds) h7 hm.1 hm.2 h9]
      (refine' hret2 _ _ _ ?eF ?eN; (case eF => k_asm); (case eN => k_asm)))
  intro t' h' tk' F' N'
  dsimp only
  k_steps
  (refine' hret _ _ _ _ _ _ _ ?eF ?eN ?e1 ?e2 ?e3 ?e4; (case e1 => assumption); (case eF => k_asm); (case eN => (refine' cb_drop ?cbN ?cbS; (case cbN => k_asm); (case cbS => ((repeat (refine List.forall_mem_cons.mpr ⟨by k_mem, ?_⟩)); intro p hp; repeat (first | exact hp | refine List.Mem.tail _ ?_))))); (case e2 => exact Eq.trans (by assumption) (congrArg (fun q => some (Value.str q _)) (by kernel_rfl))); (case e3 => omega); (case e4 => exact ltAll (by assumption))))

theorem dg_hit {w : World} {loose : List Str} {mean : ExcName → Option Value} {mg mb : Str → Option Value} {news : List (Addr × Obj)} {n : Nat} {t2 : Tok} {vs : List Value} {ds : List Int} {l : Addr} {c : Nat} {c1 : Addr} {oc1 : Obj} {vs1 : Array Value} {tq : Tok}
    (hi : IntsAre vs ds) (hl : ds.length ≤ 30) (hn : 0 < n ∧ n ≤ 30) (h37 : (37, tabObj #[rawInt 47, rawInt 4, .ref c1]) ∈ news) (hlm : (l, listOf vs.toArray c) ∈ news) (hdig : DigOk n ds) (hsz : ds.length * n ≤ 60)
    (hc1 : (c1, oc1) ∈ news) (hd1 : oc1.data = .fields vs1) (hq1 : vs1[1]? = some (.str (Str.ofString "_digits2int.<locals>.inner") tq)) :
    Cl PySem.Challenge.rw_rl0041_01.row.prog w (hd.heap_39 w.params) loose mean mg mb 42 news 40 [.ref l, .int (n : Int) t2]
    (fun h₀ L m s Q => ∀ (t : Tok) (h' : Heap) (tk' : Nat), Fr h₀ L h' m → News h₀ L h' news → Q (.int (dval n ds) t) { s with heap := h', toks := tk' }) := by
  w_strict (
  w_top off
  k_fill
  dsimp only [Cl]; intros; rename_i hret
  refine wpAny_call ?_
  k_dflt k_enter
  k_steps
  all_goals try (
    (rw [show (0 : Int) = dval n ds by rw [List.eq_nil_of_length_eq_zero (l := ds) (by omega)]; rfl])
    (refine' hret _ _ _ ?eF ?eN; (case eF => k_asm); (case eN => (refine' cb_drop ?cbN ?cbS; (case cbN => k_asm); (case cbS => ((repeat (refine List.forall_mem_cons.mpr ⟨by k_mem, ?_⟩)); intro p hp; repeat (first | exact hp | refine List.Mem.tail _ ?_)))))))
  (k_dflt (refine' in2_use ?k1 ?k2 ?k3 ?k4 ?k5 ?k6 ?k7 ?m1 ?m2 ?m3 ?m4 ?m5 ?m6 ?g1 ?g2 ?g3 ?g4 ?g5 ?g6 ?n1 ?n2 ?n3 ?n4 ?_ ?st; (case k1 => k_asm); (case k2 => k_asm); (case k3 => k_asm); (case k4 => k_asm); (case k5 => k_asm); (case k6 => first | assumption | exact rfl); (case k7 => assumption); (case m1 => k_mem);  (case m2 => k_mem); (case m3 => k_mem); (case m4 => k_mem); (case m5 => k_mem)))
  (case g1 => assumption)
  (case g2 => assumption)
  (case g3 => assumption)
  (case g4 => assumption)
  (case g5 => exact Eq.trans (by assumption) (congrArg (fun q => some (Value.str q _)) (by kernel_rfl)))
  (case m6 => k_mem)
  (case g6 => assumption)
  (case n1 => omega)
  (case n2 => omega)
  (case n3 => ktr_room)
  (case n4 => ktr_units)
  (case st =>
    unfold Later
    intro g1 g2 g3 g4 g5 g6 N ih
    unfold In2
    intro dp un gd cn cs a ccd cl outer A₀ base h₀ Lf m s Q E news' x y tx ty B F X Ne T hk C h1 h2 h3 h4 h5 h6 h7 h8 h9 h10 h11 h12 hret2
    refine wpAny_call ?_
    k_dflt kn_enter
    k_steps
    · rw [one_val (n := n) h7 (by assumption) h9]
      (refine' hret2 _ _ _ ?eF ?eN; (case eF => k_asm); (case eN => k_asm))
    · have hm := mid_facts h8 (by assumption)
      have hsh := shift_facts (n := n) (k := ds.length) (m := (x + y).fdiv (2 ^ Int.toNat 1)) hm.1 (by omega) hl hn.2
      have hb := part_bound hdig hsz ((x + y).fdiv (2 ^ Int.toNat 1)).toNat (y - (x + y).fdiv (2 ^ Int.toNat 1)).toNat
      (k_dflt (refine' in2_go ih ?k1 ?k2 ?k3 ?k4 ?k5 ?k6 ?k7 ?m1 ?m2 ?m3 ?m4 ?m5 ?m6 ?n1 ?n2 ?n3 ?n4 ?n5 ?n6 ?_; (case k1 => k_asm); (case k2 => k_asm); (case k3 => k_asm); (case k4 => k_asm); (case k5 => k_asm); (case k6 => first | assumption | exact rfl); (case k7 => assumption); (case m1 => k_mem); (case m2 => k_mem); (case m3 => k_mem); (case m4 => k_mem); (case m5 => k_mem); (case m6 => k_mem); (case n1 => omega); (case n2 => omega); (case n3 => omega); (case n4 => omega); (case n5 => ktr_room); (case n6 => ktr_units)))
      intro t' h' tk' F' N'
      dsimp only
      k_steps
      (k_dflt (refine' in2_go ih ?k1 ?k2 ?k3 ?k4 ?k5 ?k6 ?k7 ?m1 ?m2 ?m3 ?m4 ?m5 ?m6 ?n1 ?n2 ?n3 ?n4 ?n5 ?n6 ?_; (case k1 => k_asm); (case k2 => k_asm); (case k3 => k_asm); (case k4 => k_asm); (case k5 => k_asm); (case k6 => first | assumption | exact rfl); (case k7 => assumption); (case m1 => k_mem); (case m2 => k_mem); (case m3 => k_mem); (case m4 => k_mem); (case m5 => k_mem); (case m6 => k_mem); (case n1 => omega); (case n2 => omega); (case n3 => omega); (case n4 => omega); (case n5 => ktr_room); (case n6 => ktr_units)))
      intro t' h' tk' F' N'
      dsimp only
      k_steps
      rw [split_val (n := n) (ds := ds) h7 hm.1 hm.2 h9]
      (refine' hret2 _ _ _ ?eF ?eN; (case eF => k_asm); (case eN => k_asm)))
  intro t' h' tk' F' N'
  dsimp only
  k_steps
  (refine' hret _ _ _ ?eF ?eN; (case eF => k_asm); (case eN => (refine' cb_drop ?cbN ?cbS; (case cbN => k_asm); (case cbS => ((repeat (refine List.forall_mem_cons.mpr ⟨by k_mem, ?_⟩)); intro p hp; repeat (first | exact hp | refine List.Mem.tail _ ?_)))))))

set_option maxRecDepth 100000
set_option maxHeartbeats 2000000
theorem dg_use {w : World} {loose : List Str} {mean : ExcName → Option Value} {mg mb : Str → Option Value} {all : List (Addr × Obj)} {g : Obj → List (Addr × Obj)} {n : Nat} {t2 : Tok} {vs : List Value} {ds : List Int} {l : Addr} {c : Nat}
    (U : UpdF 37 (tabObj #[]) all g) (hlm : (l, listOf vs.toArray c) ∈ all) (hne : l ≠ 37) (hi : IntsAre vs ds) (hl : ds.length ≤ 30) (hn : 0 < n ∧ n ≤ 30) (hdig : DigOk n ds) (hsz : ds.length * n ≤ 60) :
    Cl PySem.Challenge.rw_rl0041_01.row.prog w (hd.heap_39 w.params) loose mean mg mb 42 all 40 [.ref l, .int (n : Int) t2]
    (fun h₀ L m s Q => ∀ (t : Tok) (h' : Heap) (tk' : Nat) (c1 : Addr) (oc1 : Obj) (vs1 : Array Value) (tq : Tok), Fr h₀ L h' m → News h₀ L h' ((c1, oc1) :: g (tabObj #[rawInt 47, rawInt 4, .ref c1])) →
      oc1.data = .fields vs1 → vs1[1]? = some (.str (Str.ofString "_digits2int.<locals>.inner") tq) → (∀ p ∈ all, p.1 < c1) → Q (.int (dval n ds) t) { s with heap := h', toks := tk' }) := by
  obtain ⟨rest, r1, r2, r3, r4, r5⟩ := front (news' := all) U
  intro dp un gd cn cs a ccd cl outer A₀ base h₀ L m s Q E B F X N T hk C1 C2 h1 h2 h3
  refine dg_miss hi hl hn r1 (r3 _ hne hlm) hdig hsz dp un gd cn cs a ccd cl outer A₀ base h₀ L m s Q E B F X (fun p hp => ?_) T hk C1 C2 h1 h2 ?_
  · rcases List.mem_cons.mp hp with rfl | hp
    · exact N _ r4
    · exact N _ (r2 _ hp)
  · intro t h' tk' c1 oc1 vs1 tq F' N' d1 d2 l1 l2
    refine h3 t h' tk' c1 oc1 vs1 tq F' (fun p hp => ?_) d1 d2 (fun p hp => ?_)
    · rcases List.mem_cons.mp hp with rfl | hp
      · exact N' _ (.head _)
      · exact N' _ (.tail _ (r5 _ p hp))
    · by_cases e : p.1 = 37
      · rw [e]; exact l1
      · exact l2 p (r3 p e hp)

set_option maxRecDepth 100000
set_option maxHeartbeats 2000000

theorem i2d_miss {w : World} {loose : List Str} {mean : ExcName → Option Value} {mg mb : Str → Option Value} {news : List (Addr × Obj)} {n : Nat} {a : Int} {t1 t2 : Tok}
    (ha : 0 ≤ a) (ha2 : a < 2 ^ 30) (hn : 0 < n ∧ n ≤ 30) (hap : ∀ p ∈ news, p.1 ≠ 30) :
    Cl PySem.Challenge.rw_rl0041_01.row.prog w (hd.heap_39 w.params) loose mean mg mb 35 ((30, tabObj #[]) :: news) 40 [.int a t1, .int (n : Int) t2]
    (fun h₀ L m s Q => ∀ (l : Addr) (vs : List Value) (ds : List Int) (c : Nat) (h' : Heap) (tk' : Nat) (c1 : Addr) (oc1 : Obj) (vs1 : Array Value) (tq : Tok), Fr h₀ L h' m → News h₀ L h' ((l, listOf vs.toArray c) :: (c1, oc1) :: (30, tabObj #[rawInt 32, rawInt 4, .ref c1]) :: news) →
      IntsAre vs ds → DigOk n ds → dval n ds = a → ds.length ≤ 30 → ds.length * n ≤ 60 → (∀ p ∈ news, p.1 < l) → 30 < l →
      oc1.data = .fields vs1 → vs1[1]? = some (.str (Str.ofString "_int2digits.<locals>.inner") tq) → l < c1 → Q (.ref l) { s with heap := h', toks := tk' }) := by
  w_strict (
  w_top off
  k_fill
  dsimp only [Cl]; intros; rename_i hret
  have hD := digs_facts ha ha2 hn.1 hn.2
  refine wpAny_call ?_
  k_dflt k_enter
  k_steps
  all_goals try (
    have hz := zeros_facts n (((Builtin.Int.intBits a : Int) + n - 1).fdiv n).toNat
    have hz2 : dval n (List.replicate (((Builtin.Int.intBits a : Int) + n - 1).fdiv n).toNat [(0 : Int)]).flatten = a := by rw [hz.2.1]; omega
    (refine' hret _ _ _ _ _ _ _ _ _ _ ?eF ?eN ?e1 ?e2 ?e3 ?e4 ?e5 ?e6 ?e7 ?f1 ?f2 ?f3; (case f1 => assumption); (case eF => k_asm); (case eN => (refine' cb_drop ?cbN ?cbS; (case cbN => k_asm); (case cbS => ((repeat (refine List.forall_mem_cons.mpr ⟨by k_mem, ?_⟩)); intro p hp; repeat (first | exact hp | refine List.Mem.tail _ ?_))))); (case e1 => assumption); (case e2 => exact hz.1); (case e3 => exact hz2); (case e4 => exact (by rw [hz.2.2]; exact hD.2.2.2.2.2)); (case e5 => exact (by rw [hz.2.2]; exact hD.2.2.2.1)); (case e6 => exact ltAll (by assumption)); (case e7 => omega); (case f2 => exact Eq.trans (by assumption) (congrArg (fun q => some (Value.str q _)) (by kernel_rfl))); (case f3 => omega)))
  have hz := zeros_facts n (((Builtin.Int.intBits a : Int) + n - 1).fdiv n).toNat
  (k_dflt (refine' in1_use ?k1 ?k2 ?k3 ?k4 ?k5 ?k6 ?k7 ?kU ?m1 ?m2 ?m3 ?m4 ?m5 ?q1 ?q2 ?q3 ?q4 ?q5 ?g1 ?g2 ?g3 ?g4 ?g5 ?g6 ?g7 ?n1 ?n2 ?n3 ?n4 ?n5 ?n6 ?_ ?st; (case k1 => k_asm); (case k2 => k_asm); (case k3 => k_asm); (case k4 => k_asm); (case k5 => k_asm); (case k6 => first | assumption | exact rfl); (case k7 => assumption); (case m1 => k_mem);  (case m2 => k_mem); (case m3 => k_mem); (case m4 => k_mem); (case m5 => k_mem)))
  (case g1 => assumption)
  (case g2 => assumption)
  (case g3 => assumption)
  (case g4 => assumption)
  (case g5 => assumption)
  (case kU => k_dflt k_updF)
  (case g6 => assumption)
  (case q1 => (refine neN ?_; omega))
  (case q2 => (refine neN ?_; omega))
  (case q3 => (refine neN ?_; omega))
  (case q4 => (refine neN ?_; omega))
  (case q5 => (refine neN ?_; omega))
  (case g7 => exact hz.2.2)
  (case n1 => exact ha)
  (case n2 => exact hD.2.2.1)
  (case n3 => omega)
  (case n4 => omega)
  (case n5 => ktr_room)
  (case n6 => ktr_units)
  (case st =>
    unfold Later
    intro g1 g2 g3 g4 g5 N ih
    unfold In1
    intro dp un gd cn cs a9 ccd cl outer A₀ base h₀ Lf m s Q E news' vs9 ds9 c9 x i j tx ti tj B F X Ne T hk C h1 h2 h3 h4 h5 h6 h6i h6d h7 h7b h8 h8b h9 h10 h11 h12 hret2
    have hm0 := mid_facts0 h8b
    have hsh := shift_facts0 (n := n) (k := (((Builtin.Int.intBits a : Int) + n - 1).fdiv n).toNat) (m := (i + j).fdiv (2 ^ Int.toNat 1)) hm0.1 (by omega) hD.2.2.2.2.2 hn.2
    have hjn : (j - i).toNat * n ≤ 60 := Nat.le_trans (Nat.mul_le_mul_right n (by omega)) hD.2.2.2.1
    have hfd := small_fdiv (k := (((i + j).fdiv (2 ^ Int.toNat 1) - i) * (n : Int)).toNat) h7 h7b hjn
    refine wpAny_call ?_
    k_dflt kn_enter
    k_steps
    · (refine' hret2 _ _ _ ?eF ?eN ?eI; (case eF => k_asm); (case eN => k_asm); (case eI => (rw [← put_one h8 (by assumption) (by omega) h7 h7b]; assumption)))
    · have hm := mid_facts h8b (by assumption)
      have hf := half_facts h7 h7b hm.1 hm.2
      (k_dflt (refine' in1_go ih ?k1 ?k2 ?k3 ?k4 ?k5 ?k6 ?k7 ?m1 ?m2 ?m3 ?m4 ?m5 ?m6 ?m7 ?m8 ?n1 ?n2 ?n3 ?n4 ?n5 ?n6 ?n7 ?n8 ?_; (case k1 => k_asm); (case k2 => k_asm); (case k3 => k_asm); (case k4 => k_asm); (case k5 => k_asm); (case k6 => first | assumption | exact rfl); (case k7 => assumption); (case m1 => k_mem); (case m2 => k_mem); (case m3 => k_mem); (case m4 => k_mem); (case m5 => k_mem); (case m6 => assumption); (case m7 => assumption)))
      (case m8 => exact h6d)
      (case n1 => exact hf.1)
      (case n2 => exact hf.2.1)
      (case n3 => omega)
      (case n4 => omega)
      (case n5 => omega)
      (case n6 => omega)
      (case n7 => ktr_room)
      (case n8 => ktr_units)
      intro vs7 h' tk' F' N' I7
      have hl7 := put_length (ds := ds9) (i := i.toNat) (e := dig n ((i + j).fdiv (2 ^ Int.toNat 1) - i).toNat (Builtin.bitXor x (x.fdiv (2 ^ (((i + j).fdiv (2 ^ Int.toNat 1) - i) * (n : Int)).toNat) * 2 ^ (((i + j).fdiv (2 ^ Int.toNat 1) - i) * (n : Int)).toNat))) (by rw [dig_length]; omega)
      dsimp only
      k_steps
      (k_dflt (refine' in1_go ih ?k1 ?k2 ?k3 ?k4 ?k5 ?k6 ?k7 ?m1 ?m2 ?m3 ?m4 ?m5 ?m6 ?m7 ?m8 ?n1 ?n2 ?n3 ?n4 ?n5 ?n6 ?n7 ?n8 ?_; (case k1 => k_asm); (case k2 => k_asm); (case k3 => k_asm); (case k4 => k_asm); (case k5 => k_asm); (case k6 => first | assumption | exact rfl); (case k7 => assumption); (case m1 => k_mem); (case m2 => k_mem); (case m3 => k_mem); (case m4 => k_mem); (case m5 => k_mem); (case m6 => assumption); (case m7 => assumption)))
      (case m8 => exact hl7.trans h6d)
      (case n1 => exact hf.2.2.1)
      (case n2 => exact hf.2.2.2.1)
      (case n3 => omega)
      (case n4 => omega)
      (case n5 => omega)
      (case n6 => omega)
      (case n7 => ktr_room)
      (case n8 => ktr_units)
      intro vs8 h' tk' F' N' I8
      rw [put_put (by rw [dig_length]; omega) (by rw [dig_length]; omega), hf.2.2.2.2] at I8
      dsimp only
      k_steps
      (refine' hret2 _ _ _ ?eF ?eN ?eI; (case eF => k_asm); (case eN => k_asm); (case eI => exact I8)))
  intro vs8 h' tk' F' N' I8
  (try dsimp only at N')
  dsimp only
  k_steps
  (refine' hret _ _ _ _ _ _ _ _ _ _ ?eF ?eN ?e1 ?e2 ?e3 ?e4 ?e5 ?e6 ?e7 ?f1 ?f2 ?f3; (case f1 => assumption); (case eF => k_asm); (case eN => (refine' cb_drop ?cbN ?cbS; (case cbN => k_asm); (case cbS => ((repeat (refine List.forall_mem_cons.mpr ⟨by k_mem, ?_⟩)); intro p hp; repeat (first | exact hp | refine List.Mem.tail _ ?_))))); (case e1 => assumption); (case e2 => exact dig_ok n _ a); (case e3 => exact dig_val n _ a ha hD.2.2.1); (case e4 => exact (by rw [dig_length]; exact hD.2.2.2.2.2)); (case e5 => exact (by rw [dig_length]; exact hD.2.2.2.1)); (case e6 => exact ltAll (by assumption)); (case e7 => omega); (case f2 => exact Eq.trans (by assumption) (congrArg (fun q => some (Value.str q _)) (by kernel_rfl))); (case f3 => omega)))

theorem i2d_hit {w : World} {loose : List Str} {mean : ExcName → Option Value} {mg mb : Str → Option Value} {news : List (Addr × Obj)} {n : Nat} {a : Int} {t1 t2 : Tok} {c1 : Addr} {oc1 : Obj} {vs1 : Array Value} {tq : Tok}
    (ha : 0 ≤ a) (ha2 : a < 2 ^ 30) (hn : 0 < n ∧ n ≤ 30) (h30 : (30, tabObj #[rawInt 32, rawInt 4, .ref c1]) ∈ news)
    (hc1 : (c1, oc1) ∈ news) (hd1 : oc1.data = .fields vs1) (hq1 : vs1[1]? = some (.str (Str.ofString "_int2digits.<locals>.inner") tq)) :
    Cl PySem.Challenge.rw_rl0041_01.row.prog w (hd.heap_39 w.params) loose mean mg mb 35 news 40 [.int a t1, .int (n : Int) t2]
    (fun h₀ L m s Q => ∀ (l : Addr) (vs : List Value) (ds : List Int) (c : Nat) (h' : Heap) (tk' : Nat), Fr h₀ L h' m → News h₀ L h' ((l, listOf vs.toArray c) :: news) →
      IntsAre vs ds → DigOk n ds → dval n ds = a → ds.length ≤ 30 → ds.length * n ≤ 60 → (∀ p ∈ news, p.1 < l) → Q (.ref l) { s with heap := h', toks := tk' }) := by
  w_strict (
  w_top off
  k_fill
  dsimp only [Cl]; intros; rename_i hret
  have hD := digs_facts ha ha2 hn.1 hn.2
  refine wpAny_call ?_
  k_dflt k_enter
  k_steps
  all_goals try (
    have hz := zeros_facts n (((Builtin.Int.intBits a : Int) + n - 1).fdiv n).toNat
    have hz2 : dval n (List.replicate (((Builtin.Int.intBits a : Int) + n - 1).fdiv n).toNat [(0 : Int)]).flatten = a := by rw [hz.2.1]; omega
    (refine' hret _ _ _ _ _ _ ?eF ?eN ?e1 ?e2 ?e3 ?e4 ?e5 ?e6; (case eF => k_asm); (case eN => (refine' cb_drop ?cbN ?cbS; (case cbN => k_asm); (case cbS => ((repeat (refine List.forall_mem_cons.mpr ⟨by k_mem, ?_⟩)); intro p hp; repeat (first | exact hp | refine List.Mem.tail _ ?_))))); (case e1 => assumption); (case e2 => exact hz.1); (case e3 => exact hz2); (case e4 => exact (by rw [hz.2.2]; exact hD.2.2.2.2.2)); (case e5 => exact (by rw [hz.2.2]; exact hD.2.2.2.1)); (case e6 => exact ltAll (by assumption))))
  have hz := zeros_facts n (((Builtin.Int.intBits a : Int) + n - 1).fdiv n).toNat
  (k_dflt (refine' in1_use ?k1 ?k2 ?k3 ?k4 ?k5 ?k6 ?k7 ?kU ?m1 ?m2 ?m3 ?m4 ?m5 ?q1 ?q2 ?q3 ?q4 ?q5 ?g1 ?g2 ?g3 ?g4 ?g5 ?g6 ?g7 ?n1 ?n2 ?n3 ?n4 ?n5 ?n6 ?_ ?st; (case k1 => k_asm); (case k2 => k_asm); (case k3 => k_asm); (case k4 => k_asm); (case k5 => k_asm); (case k6 => first | assumption | exact rfl); (case k7 => assumption); (case m1 => k_mem);  (case m2 => k_mem); (case m3 => k_mem); (case m4 => k_mem); (case m5 => k_mem)))
  (case g1 => assumption)
  (case g2 => assumption)
  (case g3 => assumption)
  (case g4 => assumption)
  (case g5 => exact Eq.trans (by assumption) (congrArg (fun q => some (Value.str q _)) (by kernel_rfl)))
  (case kU => k_dflt k_updF)
  (case g6 => assumption)
  (case q1 => (refine neN ?_; omega))
  (case q2 => (refine neN ?_; omega))
  (case q3 => (refine neN ?_; omega))
  (case q4 => (refine neN ?_; omega))
  (case q5 => exact (show ((c1, oc1) : Addr × Obj).1 ≠ _ from neLt (by assumption) _ hc1))
  (case g7 => exact hz.2.2)
  (case n1 => exact ha)
  (case n2 => exact hD.2.2.1)
  (case n3 => omega)
  (case n4 => omega)
  (case n5 => ktr_room)
  (case n6 => ktr_units)
  (case st =>
    unfold Later
    intro g1 g2 g3 g4 g5 N ih
    unfold In1
    intro dp un gd cn cs a9 ccd cl outer A₀ base h₀ Lf m s Q E news' vs9 ds9 c9 x i j tx ti tj B F X Ne T hk C h1 h2 h3 h4 h5 h6 h6i h6d h7 h7b h8 h8b h9 h10 h11 h12 hret2
    have hm0 := mid_facts0 h8b
    have hsh := shift_facts0 (n := n) (k := (((Builtin.Int.intBits a : Int) + n - 1).fdiv n).toNat) (m := (i + j).fdiv (2 ^ Int.toNat 1)) hm0.1 (by omega) hD.2.2.2.2.2 hn.2
    have hjn : (j - i).toNat * n ≤ 60 := Nat.le_trans (Nat.mul_le_mul_right n (by omega)) hD.2.2.2.1
    have hfd := small_fdiv (k := (((i + j).fdiv (2 ^ Int.toNat 1) - i) * (n : Int)).toNat) h7 h7b hjn
    refine wpAny_call ?_
    k_dflt kn_enter
    k_steps
    · (refine' hret2 _ _ _ ?eF ?eN ?eI; (case eF => k_asm); (case eN => k_asm); (case eI => (rw [← put_one h8 (by assumption) (by omega) h7 h7b]; assumption)))
    · have hm := mid_facts h8b (by assumption)
      have hf := half_facts h7 h7b hm.1 hm.2
      (k_dflt (refine' in1_go ih ?k1 ?k2 ?k3 ?k4 ?k5 ?k6 ?k7 ?m1 ?m2 ?m3 ?m4 ?m5 ?m6 ?m7 ?m8 ?n1 ?n2 ?n3 ?n4 ?n5 ?n6 ?n7 ?n8 ?_; (case k1 => k_asm); (case k2 => k_asm); (case k3 => k_asm); (case k4 => k_asm); (case k5 => k_asm); (case k6 => first | assumption | exact rfl); (case k7 => assumption); (case m1 => k_mem); (case m2 => k_mem); (case m3 => k_mem); (case m4 => k_mem); (case m5 => k_mem); (case m6 => assumption); (case m7 => assumption)))
      (case m8 => exact h6d)
      (case n1 => exact hf.1)
      (case n2 => exact hf.2.1)
      (case n3 => omega)
      (case n4 => omega)
      (case n5 => omega)
      (case n6 => omega)
      (case n7 => ktr_room)
      (case n8 => ktr_units)
      intro vs7 h' tk' F' N' I7
      have hl7 := put_length (ds := ds9) (i := i.toNat) (e := dig n ((i + j).fdiv (2 ^ Int.toNat 1) - i).toNat (Builtin.bitXor x (x.fdiv (2 ^ (((i + j).fdiv (2 ^ Int.toNat 1) - i) * (n : Int)).toNat) * 2 ^ (((i + j).fdiv (2 ^ Int.toNat 1) - i) * (n : Int)).toNat))) (by rw [dig_length]; omega)
      dsimp only
      k_steps
      (k_dflt (refine' in1_go ih ?k1 ?k2 ?k3 ?k4 ?k5 ?k6 ?k7 ?m1 ?m2 ?m3 ?m4 ?m5 ?m6 ?m7 ?m8 ?n1 ?n2 ?n3 ?n4 ?n5 ?n6 ?n7 ?n8 ?_; (case k1 => k_asm); (case k2 => k_asm); (case k3 => k_asm); (case k4 => k_asm); (case k5 => k_asm); (case k6 => first | assumption | exact rfl); (case k7 => assumption); (case m1 => k_mem); (case m2 => k_mem); (case m3 => k_mem); (case m4 => k_mem); (case m5 => k_mem); (case m6 => assumption); (case m7 => assumption)))
      (case m8 => exact hl7.trans h6d)
      (case n1 => exact hf.2.2.1)
      (case n2 => exact hf.2.2.2.1)
      (case n3 => omega)
      (case n4 => omega)
      (case n5 => omega)
      (case n6 => omega)
      (case n7 => ktr_room)
      (case n8 => ktr_units)
      intro vs8 h' tk' F' N' I8
      rw [put_put (by rw [dig_length]; omega) (by rw [dig_length]; omega), hf.2.2.2.2] at I8
      dsimp only
      k_steps
      (refine' hret2 _ _ _ ?eF ?eN ?eI; (case eF => k_asm); (case eN => k_asm); (case eI => exact I8)))
  intro vs8 h' tk' F' N' I8
  (try dsimp only at N')
  dsimp only
  k_steps
  (refine' hret _ _ _ _ _ _ ?eF ?eN ?e1 ?e2 ?e3 ?e4 ?e5 ?e6; (case eF => k_asm); (case eN => (refine' cb_drop ?cbN ?cbS; (case cbN => k_asm); (case cbS => ((repeat (refine List.forall_mem_cons.mpr ⟨by k_mem, ?_⟩)); intro p hp; repeat (first | exact hp | refine List.Mem.tail _ ?_))))); (case e1 => assumption); (case e2 => exact dig_ok n _ a); (case e3 => exact dig_val n _ a ha hD.2.2.1); (case e4 => exact (by rw [dig_length]; exact hD.2.2.2.2.2)); (case e5 => exact (by rw [dig_length]; exact hD.2.2.2.1)); (case e6 => exact ltAll (by assumption))))

set_option maxRecDepth 100000
set_option maxHeartbeats 2000000

theorem dp_miss {w : World} {loose : List Str} {mean : ExcName → Option Value} {mg mb : Str → Option Value} {news : List (Addr × Obj)} {a b : Int} {ta tb : Tok}
    (ha : 0 ≤ a) (ha2 : a < 2 ^ 30) (hb : 0 < b) (hb2 : b < 1073741824) (hap : Apart news) :
    Cl PySem.Challenge.rw_rl0041_01.row.prog w (hd.heap_39 w.params) loose mean mg mb 49 ((30, tabObj #[]) :: (37, tabObj #[]) :: news) 42 [.int a ta, .int b tb]
    (fun h₀ L m s Q => ∀ (D : Addr) (t1 t2 : Tok) (c : Nat) (h' : Heap) (tk' : Nat) (c1 : Addr) (oc1 : Obj) (vs1 : Array Value) (tq1 : Tok) (c2 : Addr) (oc2 : Obj) (vs2 : Array Value) (tq2 : Tok), Fr h₀ L h' m →
      News h₀ L h' ((D, tupObj (a.fdiv b) (a.fmod b) t1 t2 c) :: (c1, oc1) :: (c2, oc2) :: (30, tabObj #[rawInt 32, rawInt 4, .ref c1]) :: (37, tabObj #[rawInt 47, rawInt 4, .ref c2]) :: news) →
      oc1.data = .fields vs1 → vs1[1]? = some (.str (Str.ofString "_int2digits.<locals>.inner") tq1) → oc2.data = .fields vs2 → vs2[1]? = some (.str (Str.ofString "_digits2int.<locals>.inner") tq2) → 37 < c1 → c1 < c2 → c2 < D → (∀ p ∈ news, p.1 < c1) → Q (.ref D) { s with heap := h', toks := tk' }) := by
  w_strict (
  w_top off
  k_fill
  dsimp only [Cl, RetTup]; intros; rename_i hret
  have hnn : 0 < Builtin.Int.intBits b ∧ Builtin.Int.intBits b ≤ 30 := bits_pos hb hb2
  have hbn : b < 2 ^ Builtin.Int.intBits b := bits_lt (by omega)
  refine wpAny_call ?_
  k_dflt cell_enter
  k_steps
  (k_dflt (refine' cl_go (i2d_miss ha ha2 hnn (cons30 hap)) ?k1 ?k2 ?k3 ?k4 ?k5 ?k6 ?k7 ?k8 ?n1 ?n2 ?_; (case k1 => k_asm); (case k2 => k_asm); (case k3 => k_asm); (case k4 => k_asm); (case k5 => k_asm); (case k6 => first | assumption | exact rfl); (case k7 => assumption); (case k8 => assumption); (case n1 => ktr_room); (case n2 => ktr_units)))
  intro la va da ca h' tk' c1 oc1 vs1 tq1 F' N' I1 G1 V1 H1 S1 L1 L2 d1 q1 L3
  k_lt2 L2
  k_lt2 L3
  (k_lt L1)
  dsimp only
  k_steps
  (k_dflt (refine' dp_loop (n := Builtin.Int.intBits b) (b := b) ?hh ?kF ?kN ?hI ?hla ?hi ?kU ?hne ?hr ?hdig ?hb ?_ ?turn; (case hh => exact rfl); (case kF => k_asm); (case kN => k_asm); (case hI => k_all); (case hla => k_mem); (case hi => assumption); (case kU => k_updF); (case hr => exact rfl); (case hdig => assumption); (case hb => assumption)))
  (case hne => (refine neN ?_; omega))
  (case turn =>
    unfold Later
    intro rest hr1 hr2 hr3 d td qs vq cq r tr oq oa it h tk hc iq hlq d0 d1 r0 r1 F9 N9
    have hbt := dp_bits hb2 hnn.2 r0 r1 d0 d1
    k_steps
    (k_dflt (refine' cl_go (d21_spec hb hb2 hbt) ?k1 ?k2 ?k3 ?k4 ?k5 ?k6 ?k7 ?k8 ?n1 ?n2 ?_; (case k1 => k_asm); (case k2 => k_asm); (case k3 => k_asm); (case k4 => k_asm); (case k5 => k_asm); (case k6 => first | assumption | exact rfl); (case k7 => assumption); (case k8 => assumption); (case n1 => ktr_room); (case n2 => ktr_units)))
    intro D9 t1 t2 c9 h' tk' F' N' L9
    (k_lt L9)
    dsimp only
    k_steps
    (k_dflt (refine' dp_unr (n := Builtin.Int.intBits b) ?uF ?uN ?uI ?ul ?us ?u1 ?u2 ?ui; (case uF => k_asm); (case uN => k_asm); (case uI => k_mem); (case ul => k_mem); (case us => (intro p hp; repeat (first | exact hp | refine List.Mem.tail _ ?_))); (case u1 => assumption); (case u2 => assumption); (case ui => assumption))))
  intro qs vq cq r tr oq oa h tk iq gq hlq v0 r0 r1 F9 N9
  (try dsimp only at N9)
  dsimp only
  k_steps
  (k_dflt (refine' kl_reverse (l := vq.reverse) ?F ?N ?e ?U ?z ?_; (case F => k_asm); (case N => k_asm); (case U => k_upd); (case e => exact rfl); (case z => exact room_rev iq (by omega))))
  intro h' F' N'
  (try dsimp only)
  k_steps
  obtain ⟨e1, e2⟩ := div_uniq hb (V1.symm.trans v0) r0 r1
  (k_dflt (refine' cl_go (dg_use (ds := qs.reverse) ?hU ?hm ?hne (IntsAre.reverse iq) ?hl hnn gq.reverse ?hs) ?k1 ?k2 ?k3 ?k4 ?k5 ?k6 ?k7 ?k8 ?n1 ?n2 ?_; (case k1 => k_asm); (case k2 => k_asm); (case k3 => k_asm); (case k4 => k_asm); (case k5 => k_asm); (case k6 => first | assumption | exact rfl); (case k7 => assumption); (case k8 => assumption); (case n1 => ktr_room); (case n2 => ktr_units)))
  (case hU => k_dflt k_updF)
  (case hm => k_dflt k_mem)
  (case hne => (refine neN ?_; omega))
  (case hl => (rw [List.length_reverse]; omega))
  (case hs => (rw [List.length_reverse, hlq]; exact S1))
  intro t9 h' tk' c2 oc2 vs2 tq2 F' N' d2 q2 LA
  (try dsimp only at N')
  (k_lt LA)
  rw [e1]
  subst e2
  dsimp only
  k_steps
  (refine' hret _ _ _ _ _ _ _ _ _ _ _ _ _ _ ?eF ?eN ?f1 ?f2 ?f3 ?f4 ?f5 ?f6 ?f7 ?f8; (case f1 => exact d1); (case f3 => exact d2); (case eF => k_asm); (case eN => (refine' cb_drop ?cbN ?cbS; (case cbN => k_asm); (case cbS => ((repeat (refine List.forall_mem_cons.mpr ⟨by k_mem, ?_⟩)); intro p hp; repeat (first | exact hp | refine List.Mem.tail _ ?_))))); (case f2 => exact q1); (case f4 => exact q2); (case f5 => (refine ltN ?_; omega)); (case f6 => (refine ltN ?_; omega)); (case f7 => (refine ltN ?_; omega)); (case f8 => exact fun p hp => Nat.lt_trans (ltAll L1 p hp) L3)))

theorem dp_hit {w : World} {loose : List Str} {mean : ExcName → Option Value} {mg mb : Str → Option Value} {news : List (Addr × Obj)} {a b : Int} {ta tb : Tok} {c1 : Addr} {oc1 : Obj} {vs1 : Array Value} {tq1 : Tok} {c2 : Addr} {oc2 : Obj} {vs2 : Array Value} {tq2 : Tok}
    (ha : 0 ≤ a) (ha2 : a < 2 ^ 30) (hb : 0 < b) (hb2 : b < 1073741824) (h30 : (30, tabObj #[rawInt 32, rawInt 4, .ref c1]) ∈ news) (hc1 : (c1, oc1) ∈ news) (hd1 : oc1.data = .fields vs1) (hq1 : vs1[1]? = some (.str (Str.ofString "_int2digits.<locals>.inner") tq1))
    (h37 : (37, tabObj #[rawInt 47, rawInt 4, .ref c2]) ∈ news) (hc2 : (c2, oc2) ∈ news) (hd2 : oc2.data = .fields vs2) (hq2 : vs2[1]? = some (.str (Str.ofString "_digits2int.<locals>.inner") tq2)) :
    Cl PySem.Challenge.rw_rl0041_01.row.prog w (hd.heap_39 w.params) loose mean mg mb 49 news 42 [.int a ta, .int b tb]
    (RetTup news (a.fdiv b) (a.fmod b)) := by
  w_strict (
  w_top off
  k_fill
  dsimp only [Cl, RetTup]; intros; rename_i hret
  have hnn : 0 < Builtin.Int.intBits b ∧ Builtin.Int.intBits b ≤ 30 := bits_pos hb hb2
  have hbn : b < 2 ^ Builtin.Int.intBits b := bits_lt (by omega)
  refine wpAny_call ?_
  k_dflt cell_enter
  k_steps
  (k_dflt (refine' cl_go (i2d_hit ha ha2 hnn h30 hc1 hd1 hq1) ?k1 ?k2 ?k3 ?k4 ?k5 ?k6 ?k7 ?k8 ?n1 ?n2 ?_; (case k1 => k_asm); (case k2 => k_asm); (case k3 => k_asm); (case k4 => k_asm); (case k5 => k_asm); (case k6 => first | assumption | exact rfl); (case k7 => assumption); (case k8 => assumption); (case n1 => ktr_room); (case n2 => ktr_units)))
  intro la va da ca h' tk' F' N' I1 G1 V1 H1 S1 L1
  (k_lt L1)
  dsimp only
  k_steps
  (k_dflt (refine' dp_loop (n := Builtin.Int.intBits b) (b := b) ?hh ?kF ?kN ?hI ?hla ?hi ?kU ?hne ?hr ?hdig ?hb ?_ ?turn; (case hh => exact rfl); (case kF => k_asm); (case kN => k_asm); (case hI => k_all); (case hla => k_mem); (case hi => assumption); (case kU => k_updF); (case hr => exact rfl); (case hdig => assumption); (case hb => assumption)))
  (case hne => (refine neN ?_; omega))
  (case turn =>
    unfold Later
    intro rest hr1 hr2 hr3 d td qs vq cq r tr oq oa it h tk hc iq hlq d0 d1 r0 r1 F9 N9
    have hbt := dp_bits hb2 hnn.2 r0 r1 d0 d1
    k_steps
    (k_dflt (refine' cl_go (d21_spec hb hb2 hbt) ?k1 ?k2 ?k3 ?k4 ?k5 ?k6 ?k7 ?k8 ?n1 ?n2 ?_; (case k1 => k_asm); (case k2 => k_asm); (case k3 => k_asm); (case k4 => k_asm); (case k5 => k_asm); (case k6 => first | assumption | exact rfl); (case k7 => assumption); (case k8 => assumption); (case n1 => ktr_room); (case n2 => ktr_units)))
    intro D9 t1 t2 c9 h' tk' F' N' L9
    (k_lt L9)
    dsimp only
    k_steps
    (k_dflt (refine' dp_unr (n := Builtin.Int.intBits b) ?uF ?uN ?uI ?ul ?us ?u1 ?u2 ?ui; (case uF => k_asm); (case uN => k_asm); (case uI => k_mem); (case ul => k_mem); (case us => (intro p hp; repeat (first | exact hp | refine List.Mem.tail _ ?_))); (case u1 => assumption); (case u2 => assumption); (case ui => assumption))))
  intro qs vq cq r tr oq oa h tk iq gq hlq v0 r0 r1 F9 N9
  (try dsimp only at N9)
  dsimp only
  k_steps
  (k_dflt (refine' kl_reverse (l := vq.reverse) ?F ?N ?e ?U ?z ?_; (case F => k_asm); (case N => k_asm); (case U => k_upd); (case e => exact rfl); (case z => exact room_rev iq (by omega))))
  intro h' F' N'
  (try dsimp only)
  k_steps
  obtain ⟨e1, e2⟩ := div_uniq hb (V1.symm.trans v0) r0 r1
  (k_dflt (refine' cl_go (dg_hit (ds := qs.reverse) (IntsAre.reverse iq) ?hl hnn ?h37 ?hm gq.reverse ?hs ?hc hd2 hq2) ?k1 ?k2 ?k3 ?k4 ?k5 ?k6 ?k7 ?k8 ?n1 ?n2 ?_; (case k1 => k_asm); (case k2 => k_asm); (case k3 => k_asm); (case k4 => k_asm); (case k5 => k_asm); (case k6 => first | assumption | exact rfl); (case k7 => assumption); (case k8 => assumption); (case n1 => ktr_room); (case n2 => ktr_units)))
  (case h37 => k_dflt k_mem)
  (case hm => k_dflt k_mem)
  (case hc => k_dflt k_mem)
  (case hl => (rw [List.length_reverse]; omega))
  (case hs => (rw [List.length_reverse, hlq]; exact S1))
  intro t9 h' tk' F' N'
  rw [e1]
  subst e2
  dsimp only
  k_steps
  (refine' hret _ _ _ _ _ _ ?eF ?eN ?eL; (case eF => k_asm); (case eN => (refine' cb_drop ?cbN ?cbS; (case cbN => k_asm); (case cbS => ((repeat (refine List.forall_mem_cons.mpr ⟨by k_mem, ?_⟩)); intro p hp; repeat (first | exact hp | refine List.Mem.tail _ ?_))))); (case eL => exact ltAll (by assumption))))

set_option maxRecDepth 100000
set_option maxHeartbeats 2000000

theorem idm0_miss {w : World} {loose : List Str} {mean : ExcName → Option Value} {mg mb : Str → Option Value} {news : List (Addr × Obj)} {a b : Int} {ta tb : Tok}
    (ha : 0 ≤ a) (ha2 : a < 2 ^ 30) (hb : 0 < b) (hb2 : b < 1073741824) (hap : Apart news) :
    Cl PySem.Challenge.rw_rl0041_01.row.prog w (hd.heap_39 w.params) loose mean mg mb 56 ((30, tabObj #[]) :: (37, tabObj #[]) :: news) 43 [.int a ta, .int b tb]
    (fun h₀ L m s Q => ∀ (D : Addr) (t1 t2 : Tok) (c : Nat) (h' : Heap) (tk' : Nat) (c1 : Addr) (oc1 : Obj) (vs1 : Array Value) (tq1 : Tok) (c2 : Addr) (oc2 : Obj) (vs2 : Array Value) (tq2 : Tok), Fr h₀ L h' m →
      News h₀ L h' ((D, tupObj (a.fdiv b) (a.fmod b) t1 t2 c) :: (c1, oc1) :: (c2, oc2) :: (30, tabObj #[rawInt 32, rawInt 4, .ref c1]) :: (37, tabObj #[rawInt 47, rawInt 4, .ref c2]) :: news) →
      oc1.data = .fields vs1 → vs1[1]? = some (.str (Str.ofString "_int2digits.<locals>.inner") tq1) → oc2.data = .fields vs2 → vs2[1]? = some (.str (Str.ofString "_digits2int.<locals>.inner") tq2) → 37 < c1 → c1 < c2 → c2 < D → (∀ p ∈ news, p.1 < c1) → Q (.ref D) { s with heap := h', toks := tk' }) := by
  w_strict (
  w_top off
  k_fill
  dsimp only [Cl, RetTup]; intros; rename_i hret
  refine wpAny_call ?_
  k_dflt cell_enter
  k_steps
  all_goals try (exfalso; omega)
  (k_dflt (refine' cl_go (dp_miss ha ha2 hb hb2 hap) ?k1 ?k2 ?k3 ?k4 ?k5 ?k6 ?k7 ?k8 ?n1 ?n2 ?_; (case k1 => k_asm); (case k2 => k_asm); (case k3 => k_asm); (case k4 => k_asm); (case k5 => k_asm); (case k6 => first | assumption | exact rfl); (case k7 => assumption); (case k8 => assumption); (case n1 => ktr_room); (case n2 => ktr_units)))
  intro D9 t1 t2 c9 h' tk' c1 oc1 vs1 tq1 c2 oc2 vs2 tq2 F' N' d1 q1 d2 q2 L1 L2 L3 LA
  k_lt2 L1
  k_lt2 L2
  k_lt2 L3
  k_lt LA
  dsimp only
  k_steps
  (refine' hret _ _ _ _ _ _ _ _ _ _ _ _ _ _ ?eF ?eN ?f1 ?f2 ?f3 ?f4 ?f5 ?f6 ?f7 ?f8; (case f1 => exact d1); (case f3 => exact d2); (case eF => k_asm); (case eN => (refine' cb_drop ?cbN ?cbS; (case cbN => k_asm); (case cbS => ((repeat (refine List.forall_mem_cons.mpr ⟨by k_mem, ?_⟩)); intro p hp; repeat (first | exact hp | refine List.Mem.tail _ ?_))))); (case f2 => exact q1); (case f4 => exact q2); (case f5 => (refine ltN ?_; omega)); (case f6 => (refine ltN ?_; omega)); (case f7 => (refine ltN ?_; omega)); (case f8 => exact ltAll LA)))

theorem idm_miss {w : World} {loose : List Str} {mean : ExcName → Option Value} {mg mb : Str → Option Value} {news : List (Addr × Obj)} {a b : Int} {ta tb : Tok}
    (ha : -1000000000 < a) (ha2 : a < 1000000000) (hb : 0 < b) (hb2 : b < 1073741824) (hap : Apart news) :
    Cl PySem.Challenge.rw_rl0041_01.row.prog w (hd.heap_39 w.params) loose mean mg mb 56 ((30, tabObj #[]) :: (37, tabObj #[]) :: news) 44 [.int a ta, .int b tb]
    (fun h₀ L m s Q => ∀ (D : Addr) (t1 t2 : Tok) (c : Nat) (h' : Heap) (tk' : Nat) (c1 : Addr) (oc1 : Obj) (vs1 : Array Value) (tq1 : Tok) (c2 : Addr) (oc2 : Obj) (vs2 : Array Value) (tq2 : Tok), Fr h₀ L h' m →
      News h₀ L h' ((D, tupObj (a.fdiv b) (a.fmod b) t1 t2 c) :: (c1, oc1) :: (c2, oc2) :: (30, tabObj #[rawInt 32, rawInt 4, .ref c1]) :: (37, tabObj #[rawInt 47, rawInt 4, .ref c2]) :: news) →
      oc1.data = .fields vs1 → vs1[1]? = some (.str (Str.ofString "_int2digits.<locals>.inner") tq1) → oc2.data = .fields vs2 → vs2[1]? = some (.str (Str.ofString "_digits2int.<locals>.inner") tq2) → 37 < c1 → c1 < c2 → c2 < D → (∀ p ∈ news, p.1 < c1) → Q (.ref D) { s with heap := h', toks := tk' }) := by
  w_strict (
  w_top off
  k_fill
  dsimp only [Cl, RetTup]; intros; rename_i hret
  refine wpAny_call ?_
  k_dflt cell_enter
  by_cases hneg : a < 0
  · k_steps
    all_goals try (exfalso; omega)
    have hbr := bitNot_range ha hneg
    (k_dflt (refine' cl_go (idm0_miss hbr.1 hbr.2 hb hb2 hap) ?k1 ?k2 ?k3 ?k4 ?k5 ?k6 ?k7 ?k8 ?n1 ?n2 ?_; (case k1 => k_asm); (case k2 => k_asm); (case k3 => k_asm); (case k4 => k_asm); (case k5 => k_asm); (case k6 => first | assumption | exact rfl); (case k7 => assumption); (case k8 => assumption); (case n1 => ktr_room); (case n2 => ktr_units)))
    intro D9 t1 t2 c9 h' tk' c1 oc1 vs1 tq1 c2 oc2 vs2 tq2 F' N' d1 q1 d2 q2 L1 L2 L3 LA
    k_lt2 L1
    k_lt2 L2
    k_lt2 L3
    k_lt LA
    dsimp only
    k_steps
    have hv := inv_facts hb (a := a)
    rw [← hv.1, ← hv.2] at hret
    (refine' hret _ _ _ _ _ _ _ _ _ _ _ _ _ _ ?eF ?eN ?f1 ?f2 ?f3 ?f4 ?f5 ?f6 ?f7 ?f8; (case f1 => exact d1); (case f3 => exact d2); (case eF => k_asm); (case eN => (refine' cb_drop ?cbN ?cbS; (case cbN => k_asm); (case cbS => ((repeat (refine List.forall_mem_cons.mpr ⟨by k_mem, ?_⟩)); intro p hp; repeat (first | exact hp | refine List.Mem.tail _ ?_))))); (case f2 => exact q1); (case f4 => exact q2); (case f5 => (refine ltN ?_; omega)); (case f6 => (refine ltN ?_; omega)); (case f7 => (refine ltN ?_; omega)); (case f8 => exact ltAll LA))
  · k_steps
    all_goals try (exfalso; omega)
    (k_dflt (refine' cl_go (dp_miss (by omega) (by omega) hb hb2 hap) ?k1 ?k2 ?k3 ?k4 ?k5 ?k6 ?k7 ?k8 ?n1 ?n2 ?_; (case k1 => k_asm); (case k2 => k_asm); (case k3 => k_asm); (case k4 => k_asm); (case k5 => k_asm); (case k6 => first | assumption | exact rfl); (case k7 => assumption); (case k8 => assumption); (case n1 => ktr_room); (case n2 => ktr_units)))
    intro D9 t1 t2 c9 h' tk' c1 oc1 vs1 tq1 c2 oc2 vs2 tq2 F' N' d1 q1 d2 q2 L1 L2 L3 LA
    k_lt2 L1
    k_lt2 L2
    k_lt2 L3
    k_lt LA
    dsimp only
    k_steps
    (refine' hret _ _ _ _ _ _ _ _ _ _ _ _ _ _ ?eF ?eN ?f1 ?f2 ?f3 ?f4 ?f5 ?f6 ?f7 ?f8; (case f1 => exact d1); (case f3 => exact d2); (case eF => k_asm); (case eN => (refine' cb_drop ?cbN ?cbS; (case cbN => k_asm); (case cbS => ((repeat (refine List.forall_mem_cons.mpr ⟨by k_mem, ?_⟩)); intro p hp; repeat (first | exact hp | refine List.Mem.tail _ ?_))))); (case f2 => exact q1); (case f4 => exact q2); (case f5 => (refine ltN ?_; omega)); (case f6 => (refine ltN ?_; omega)); (case f7 => (refine ltN ?_; omega)); (case f8 => exact ltAll LA)))

theorem idm0_hit {w : World} {loose : List Str} {mean : ExcName → Option Value} {mg mb : Str → Option Value} {news : List (Addr × Obj)} {a b : Int} {ta tb : Tok} {c1 : Addr} {oc1 : Obj} {vs1 : Array Value} {tq1 : Tok} {c2 : Addr} {oc2 : Obj} {vs2 : Array Value} {tq2 : Tok}
    (ha : 0 ≤ a) (ha2 : a < 2 ^ 30) (hb : 0 < b) (hb2 : b < 1073741824) (h30 : (30, tabObj #[rawInt 32, rawInt 4, .ref c1]) ∈ news) (hc1 : (c1, oc1) ∈ news) (hd1 : oc1.data = .fields vs1) (hq1 : vs1[1]? = some (.str (Str.ofString "_int2digits.<locals>.inner") tq1))
    (h37 : (37, tabObj #[rawInt 47, rawInt 4, .ref c2]) ∈ news) (hc2 : (c2, oc2) ∈ news) (hd2 : oc2.data = .fields vs2) (hq2 : vs2[1]? = some (.str (Str.ofString "_digits2int.<locals>.inner") tq2)) :
    Cl PySem.Challenge.rw_rl0041_01.row.prog w (hd.heap_39 w.params) loose mean mg mb 56 news 43 [.int a ta, .int b tb]
    (RetTup news (a.fdiv b) (a.fmod b)) := by
  w_strict (
  w_top off
  k_fill
  dsimp only [Cl, RetTup]; intros; rename_i hret
  refine wpAny_call ?_
  k_dflt cell_enter
  k_steps
  all_goals try (exfalso; omega)
  (k_dflt (refine' cl_go (dp_hit ha ha2 hb hb2 h30 hc1 hd1 hq1 h37 hc2 hd2 hq2) ?k1 ?k2 ?k3 ?k4 ?k5 ?k6 ?k7 ?k8 ?n1 ?n2 ?_; (case k1 => k_asm); (case k2 => k_asm); (case k3 => k_asm); (case k4 => k_asm); (case k5 => k_asm); (case k6 => first | assumption | exact rfl); (case k7 => assumption); (case k8 => assumption); (case n1 => ktr_room); (case n2 => ktr_units)))
  intro D9 t1 t2 c9 h' tk' F' N' LA
  k_lt LA
  dsimp only
  k_steps
  (refine' hret _ _ _ _ _ _ ?eF ?eN ?eL; (case eF => k_asm); (case eN => (refine' cb_drop ?cbN ?cbS; (case cbN => k_asm); (case cbS => ((repeat (refine List.forall_mem_cons.mpr ⟨by k_mem, ?_⟩)); intro p hp; repeat (first | exact hp | refine List.Mem.tail _ ?_))))); (case eL => exact ltAll (by assumption))))

theorem idm_hit {w : World} {loose : List Str} {mean : ExcName → Option Value} {mg mb : Str → Option Value} {news : List (Addr × Obj)} {a b : Int} {ta tb : Tok} {c1 : Addr} {oc1 : Obj} {vs1 : Array Value} {tq1 : Tok} {c2 : Addr} {oc2 : Obj} {vs2 : Array Value} {tq2 : Tok}
    (ha : -1000000000 < a) (ha2 : a < 1000000000) (hb : 0 < b) (hb2 : b < 1073741824) (h30 : (30, tabObj #[rawInt 32, rawInt 4, .ref c1]) ∈ news) (hc1 : (c1, oc1) ∈ news) (hd1 : oc1.data = .fields vs1) (hq1 : vs1[1]? = some (.str (Str.ofString "_int2digits.<locals>.inner") tq1))
    (h37 : (37, tabObj #[rawInt 47, rawInt 4, .ref c2]) ∈ news) (hc2 : (c2, oc2) ∈ news) (hd2 : oc2.data = .fields vs2) (hq2 : vs2[1]? = some (.str (Str.ofString "_digits2int.<locals>.inner") tq2)) :
    Cl PySem.Challenge.rw_rl0041_01.row.prog w (hd.heap_39 w.params) loose mean mg mb 56 news 44 [.int a ta, .int b tb]
    (RetTup news (a.fdiv b) (a.fmod b)) := by
  w_strict (
  w_top off
  k_fill
  dsimp only [Cl, RetTup]; intros; rename_i hret
  refine wpAny_call ?_
  k_dflt cell_enter
  by_cases hneg : a < 0
  · k_steps
    all_goals try (exfalso; omega)
    have hbr := bitNot_range ha hneg
    (k_dflt (refine' cl_go (idm0_hit hbr.1 hbr.2 hb hb2 h30 hc1 hd1 hq1 h37 hc2 hd2 hq2) ?k1 ?k2 ?k3 ?k4 ?k5 ?k6 ?k7 ?k8 ?n1 ?n2 ?_; (case k1 => k_asm); (case k2 => k_asm); (case k3 => k_asm); (case k4 => k_asm); (case k5 => k_asm); (case k6 => first | assumption | exact rfl); (case k7 => assumption); (case k8 => assumption); (case n1 => ktr_room); (case n2 => ktr_units)))
    intro D9 t1 t2 c9 h' tk' F' N' LA
    k_lt LA
    dsimp only
    k_steps
    have hv := inv_facts hb (a := a)
    rw [← hv.1, ← hv.2] at hret
    (refine' hret _ _ _ _ _ _ ?eF ?eN ?eL; (case eF => k_asm); (case eN => (refine' cb_drop ?cbN ?cbS; (case cbN => k_asm); (case cbS => ((repeat (refine List.forall_mem_cons.mpr ⟨by k_mem, ?_⟩)); intro p hp; repeat (first | exact hp | refine List.Mem.tail _ ?_))))); (case eL => exact ltAll (by assumption)))
  · k_steps
    all_goals try (exfalso; omega)
    (k_dflt (refine' cl_go (dp_hit (by omega) (by omega) hb hb2 h30 hc1 hd1 hq1 h37 hc2 hd2 hq2) ?k1 ?k2 ?k3 ?k4 ?k5 ?k6 ?k7 ?k8 ?n1 ?n2 ?_; (case k1 => k_asm); (case k2 => k_asm); (case k3 => k_asm); (case k4 => k_asm); (case k5 => k_asm); (case k6 => first | assumption | exact rfl); (case k7 => assumption); (case k8 => assumption); (case n1 => ktr_room); (case n2 => ktr_units)))
    intro D9 t1 t2 c9 h' tk' F' N' LA
    k_lt LA
    dsimp only
    k_steps
    (refine' hret _ _ _ _ _ _ ?eF ?eN ?eL; (case eF => k_asm); (case eN => (refine' cb_drop ?cbN ?cbS; (case cbN => k_asm); (case cbS => ((repeat (refine List.forall_mem_cons.mpr ⟨by k_mem, ?_⟩)); intro p hp; repeat (first | exact hp | refine List.Mem.tail _ ?_))))); (case eL => exact ltAll (by assumption))))

set_option maxRecDepth 100000
set_option maxHeartbeats 2000000
/-- Euclid's run: its numbers -/
structure LrS where
  ab : Int
  be : Int
  up : Int
  lo : Int
  lu : Int
  ll : Int
def lrStep (s : LrS) : LrS := ⟨s.be, s.ab.fmod s.be, s.ab.fdiv s.be * s.up + s.lu, s.ab.fdiv s.be * s.lo + s.ll, s.up, s.lo⟩
def lrLeft (came whole : Int) (s : LrS) : Int := came - s.up * whole.fdiv s.lo
def lrEmit (came whole : Int) (ps : List Int) (bound : Int) (s : LrS) : List (Int × Int) :=
  if (s.lo = 1 ∨ ps.any (· == s.lo) = true) ∧ (if lrLeft came whole s < 0 then -lrLeft came whole s else lrLeft came whole s) < bound then [(lrLeft came whole s, s.lo)] else []
def lrRun (came whole : Int) (ps : List Int) (bound : Int) : Nat → LrS → List (Int × Int)
  | 0, _ => []
  | N + 1, s => if s.be = 0 then [] else lrEmit came whole ps bound (lrStep s) ++ lrRun came whole ps bound N (lrStep s)
def lrAll (came whole : Int) (ps : List Int) (bound : Int) : List (Int × Int) := lrRun came whole ps bound whole.toNat ⟨came, whole, 1, 0, 0, 1⟩
/-- what the walk carries -/
structure LrC where
  st : LrS
  t1 : Tok
  t2 : Tok
  t3 : Tok
  t4 : Tok
  t5 : Tok
  t6 : Tok
  vt : List Value
  ct : Nat
  R : List (Addr × Obj)
  xs : List (Addr × Int × Int)
abbrev lrPs (c : LrC) : List (Str × Value) := [(Str.ofString "above", .int c.st.ab c.t1), (Str.ofString "below", .int c.st.be c.t2), (Str.ofString "upper", .int c.st.up c.t3), (Str.ofString "lower", .int c.st.lo c.t4), (Str.ofString "last_upper", .int c.st.lu c.t5), (Str.ofString "last_lower", .int c.st.ll c.t6)]
abbrev lrStored : List Str := [Str.ofString "part", Str.ofString "rest", Str.ofString "left", Str.ofString "above", Str.ofString "below", Str.ofString "upper", Str.ofString "lower", Str.ofString "last_upper", Str.ofString "last_lower"]
abbrev lrLed (lt : Addr) (c : LrC) : List (Addr × Obj) := (lt, listOf c.vt.toArray c.ct) :: c.R
/-- the list of pairs lies in the ledger -/
def LrItems (xs : List (Addr × Int × Int)) (vt : List Value) (R : List (Addr × Obj)) : Prop :=
  vt = xs.map (fun x => Value.ref x.1) ∧ ∀ x ∈ xs, ∃ t1 t2 c, (x.1, listOf [Value.int x.2.1 t1, Value.int x.2.2 t2].toArray c) ∈ R
def LrFacts (news : List (Addr × Obj)) (lt : Addr) (whole : Int) (c : LrC) : Prop :=
  (∀ p ∈ news, p ∈ c.R) ∧ (∀ p ∈ c.R, p.1 ≠ lt) ∧ LrItems c.xs c.vt c.R ∧ 0 ≤ c.st.be ∧ c.st.be ≤ whole ∧ -1000000000 < c.st.ab ∧ c.st.ab < 1000000000 ∧ c.xs.length ≤ 2000000 - c.st.be.toNat
def LrP (came whole : Int) (ps : List Int) (bound : Int) (c : LrC) : Prop := ∃ N, c.st.be.toNat ≤ N ∧ c.xs.map (·.2) ++ lrRun came whole ps bound N c.st = lrAll came whole ps bound
section
variable {prog : Program} {w : World} {A : Around} {E : Value → Shared → Prop} {Q : Flow → Shared → Prop} {s : Shared} {env : Env} {h₀ : Heap} {L lt : Addr} {test : Expr} {body : List Stmt} {pos : Pos} {m₀ : Str → Option Value} {news : List (Addr × Obj)} {came whole bound : Int} {ps : List Int} {t1 t2 t3 t4 t5 t6 : Tok}
theorem lr_loop (F : Fr h₀ L s.heap m₀) (N : News h₀ L s.heap ((lt, listOf ([] : List Value).toArray 0) :: news)) (hlt : ∀ p ∈ news, p.1 ≠ lt)
    (k1 : m₀ (Str.ofString "above") = some (.int came t1)) (k2 : m₀ (Str.ofString "below") = some (.int whole t2)) (k3 : m₀ (Str.ofString "upper") = some (.int 1 t3)) (k4 : m₀ (Str.ofString "lower") = some (.int 0 t4)) (k5 : m₀ (Str.ofString "last_upper") = some (.int 0 t5)) (k6 : m₀ (Str.ofString "last_lower") = some (.int 1 t6))
    (hw : 0 < whole) (hw2 : whole < 1000000) (hc : -1000000 < came) (hc2 : came < 1000000)
    (turn : Later (∀ (c : LrC) (u : Str → Option Value) (h : Heap) (tk : Nat), LrFacts news lt whole c → LrP came whole ps bound c → Fr h₀ L h (kstB (fun z => if lrStored.contains z then u z else m₀ z) (lrPs c)) → News h₀ L h (lrLed lt c) →
      wpAny (model prog w) A (isTrue test env (eval test env)) (fun b s₂ =>
        if b = true then wpAny (model prog w) A (execs body env) (KswPost h₀ L s (lrLed lt) lrPs (LrFacts news lt whole) lrStored m₀ (LrP came whole ps bound) (fun c => c.st.be.toNat) Q c) E s₂ else Q .next s₂) E { s with heap := h, toks := tk }))
    (hE : PassesOwn (model prog w) A env E := by passes_own) :
    wpAny (model prog w) A (exec (.While test body [] pos) env) Q E s := by
  unfold Later at turn
  refine ksw_while (lrLed lt) lrPs (LrFacts news lt whole) lrStored (LrP came whole ps bound) (fun c => c.st.be.toNat) ⟨⟨came, whole, 1, 0, 0, 1⟩, t1, t2, t3, t4, t5, t6, [], 0, news, []⟩ F N ⟨fun p hp => hp, hlt, ⟨rfl, fun x hx => (nomatch hx)⟩, ?_, ?_, ?_, ?_, ?_⟩ ?_ ⟨whole.toNat, Nat.le_refl _, rfl⟩ turn hE
  · show 0 ≤ whole; omega
  · show whole ≤ whole; omega
  · show -1000000000 < came; omega
  · show came < 1000000000; omega
  · show 0 ≤ _; exact Nat.zero_le _
  · intro p hp
    simp only [lrPs, List.mem_cons, List.not_mem_nil, or_false] at hp
    rcases hp with rfl | rfl | rfl | rfl | rfl | rfl
    · exact k1
    · exact k2
    · exact k3
    · exact k4
    · exact k5
    · exact k6
end

theorem fdiv_small {a b : Int} (h1 : -1000000000 < a) (h2 : a < 1000000000) (hb : 0 < b) : -1000000000 ≤ a.fdiv b ∧ a.fdiv b ≤ 1000000000 := by
  rw [Int.fdiv_eq_ediv_of_nonneg _ (by omega)]
  constructor
  · rw [Int.le_ediv_iff_mul_le hb]
    have : (1000000000 : Int) * 1 ≤ 1000000000 * b := Int.mul_le_mul_of_nonneg_left (by omega) (by decide)
    have e : -1000000000 * b = -(1000000000 * b) := by rw [Int.neg_mul]
    omega
  · have : a / b < 1000000001 := by
      rw [Int.ediv_lt_iff_lt_mul hb]
      have : (1000000001 : Int) * 1 ≤ 1000000001 * b := Int.mul_le_mul_of_nonneg_left (by omega) (by decide)
      omega
    omega
theorem fdiv_bits {w z : Int} (h0 : 0 < w) (h : w < 1000000) : Builtin.Int.intBits (w.fdiv z) ≤ 64 := by
  have key : -1000001 ≤ w.fdiv z ∧ w.fdiv z ≤ 1000000 := by
    by_cases hz : 0 < z
    · rw [Int.fdiv_eq_ediv_of_nonneg _ (by omega)]
      have h1 : 0 ≤ w / z := Int.ediv_nonneg (by omega) (by omega)
      have h2 : w / z ≤ w := Int.ediv_le_self _ (by omega)
      omega
    · by_cases hz0 : z = 0
      · subst hz0; rw [Int.fdiv_zero]; omega
      · have e := Int.fdiv_eq_ediv (a := w) (b := z)
        have e1 : w / z = -(w / (-z)) := by rw [← Int.ediv_neg, Int.neg_neg]
        have h1 : 0 ≤ w / (-z) := Int.ediv_nonneg (by omega) (by omega)
        have h2 : w / (-z) ≤ w := Int.ediv_le_self _ (by omega)
        rw [e, e1]
        split <;> omega
  exact PySem.intBits_le_64 (by omega) (by omega)
theorem any_pos {ps : List Int} (h : ∀ p ∈ ps, 0 < p ∧ p < 1000) {z : Int} (e : ps.any (· == z) = true) : 0 < z ∧ z < 1000 := by
  obtain ⟨p, hp, hq⟩ := List.any_eq_true.mp e
  have := h p hp
  have : p = z := by simpa using hq
  omega
theorem lr_exit {came whole bound : Int} {ps : List Int} {c : LrC} (h : LrP came whole ps bound c) (h0 : c.st.be = 0) : c.xs.map (·.2) = lrAll came whole ps bound := by
  obtain ⟨N, hN, e⟩ := h
  rw [← e]
  cases N with
  | zero => simp [lrRun]
  | succ N => simp [lrRun, h0]
theorem mod_lt {a b : Int} (hb : 0 < b) : 0 ≤ a.fmod b ∧ a.fmod b < b := by
  rw [Int.fmod_eq_emod_of_nonneg _ (by omega)]
  exact ⟨Int.emod_nonneg _ (by omega), Int.emod_lt_of_pos _ hb⟩
/-- one turn: what P says behind it -/
theorem lr_next {came whole bound : Int} {ps : List Int} {st : LrS} {xs xs' : List (Int × Int)} {N : Nat} (hb : 0 < st.be) (hN : st.be.toNat ≤ N)
    (e : xs ++ lrRun came whole ps bound N st = lrAll came whole ps bound) (hx : xs' = xs ++ lrEmit came whole ps bound (lrStep st)) :
    ∃ N', (lrStep st).be.toNat ≤ N' ∧ xs' ++ lrRun came whole ps bound N' (lrStep st) = lrAll came whole ps bound := by
  cases N with
  | zero => omega
  | succ N =>
    have := mod_lt (a := st.ab) hb
    refine ⟨N, ?_, ?_⟩
    · show (st.ab.fmod st.be).toNat ≤ N
      omega
    · rw [hx, ← e, List.append_assoc]
      congr 1
      show _ = lrRun came whole ps bound (N + 1) st
      unfold lrRun
      rw [if_neg (by omega)]
      cases N <;> rfl
section
variable {h₀ h' : Heap} {L lt : Addr} {s : Shared} {news all R : List (Addr × Obj)} {m₀ m' : Str → Option Value} {Q : Flow → Shared → Prop} {came whole bound : Int} {ps : List Int} {ab be up lo lu ll : Int} {t1 t2 t3 t4 t5 t6 a1 a2 a3 a4 a5 a6 : Tok} {vt : List Value} {ct tk : Nat} {xs : List (Addr × Int × Int)}
/-- the state behind a turn -/
abbrev lrNext (ab be up lo lu ll : Int) (a1 a2 a3 a4 a5 a6 : Tok) (vt : List Value) (ct : Nat) (R : List (Addr × Obj)) (xs : List (Addr × Int × Int)) : LrC := ⟨lrStep ⟨ab, be, up, lo, lu, ll⟩, a1, a2, a3, a4, a5, a6, vt, ct, R, xs⟩
theorem lr_end_none (F : Fr h₀ L h' m') (N : News h₀ L h' all) (hl : (lt, listOf vt.toArray ct) ∈ all) (hR : ∀ p ∈ R, p ∈ all)
    (f1 : ∀ p ∈ news, p ∈ R) (f2 : ∀ p ∈ R, p.1 ≠ lt) (f3 : LrItems xs vt R) (hbe : 0 < be) (hbw : be ≤ whole) (hw2 : whole < 1000000) (f8 : xs.length ≤ 2000000 - be.toNat)
    (hP : LrP came whole ps bound ⟨⟨ab, be, up, lo, lu, ll⟩, t1, t2, t3, t4, t5, t6, vt, ct, R, xs⟩)
    (k1 : m' (Str.ofString "above") = some (.int be a1)) (k2 : m' (Str.ofString "below") = some (.int (ab.fmod be) a2)) (k3 : m' (Str.ofString "upper") = some (.int (ab.fdiv be * up + lu) a3)) (k4 : m' (Str.ofString "lower") = some (.int (ab.fdiv be * lo + ll) a4)) (k5 : m' (Str.ofString "last_upper") = some (.int up a5)) (k6 : m' (Str.ofString "last_lower") = some (.int lo a6))
    (hs : ∀ z, (∀ p ∈ lrPs (lrNext ab be up lo lu ll a1 a2 a3 a4 a5 a6 vt ct R xs), z ≠ p.1) → lrStored.contains z = false → m' z = m₀ z)
    (hno : ¬ ((ab.fdiv be * lo + ll = 1 ∨ ps.any (· == ab.fdiv be * lo + ll) = true) ∧ (if came - (ab.fdiv be * up + lu) * whole.fdiv (ab.fdiv be * lo + ll) < 0 then -(came - (ab.fdiv be * up + lu) * whole.fdiv (ab.fdiv be * lo + ll)) else came - (ab.fdiv be * up + lu) * whole.fdiv (ab.fdiv be * lo + ll)) < bound)) :
    KswPost h₀ L s (lrLed lt) lrPs (LrFacts news lt whole) lrStored m₀ (LrP came whole ps bound) (fun c => c.st.be.toNat) Q ⟨⟨ab, be, up, lo, lu, ll⟩, t1, t2, t3, t4, t5, t6, vt, ct, R, xs⟩ .next { s with heap := h', toks := tk } := by
  have hm := mod_lt (a := ab) hbe
  have hPl : LrP came whole ps bound (lrNext ab be up lo lu ll a1 a2 a3 a4 a5 a6 vt ct R xs) := by
    obtain ⟨N, hN, e⟩ := hP
    have he : lrEmit came whole ps bound (lrStep ⟨ab, be, up, lo, lu, ll⟩) = [] := if_neg hno
    exact lr_next (st := ⟨ab, be, up, lo, lu, ll⟩) hbe hN e (by rw [he, List.append_nil])
  refine ksw_end (lrNext ab be up lo lu ll a1 a2 a3 a4 a5 a6 vt ct R xs) F N (fun p hp => ?_) ⟨f1, f2, f3, hm.1, ?_, ?_, ?_, ?_⟩ (fun p hp => ?_) hs hPl ?_
  · rcases List.mem_cons.mp hp with rfl | hp
    · exact hl
    · exact hR p hp
  · show ab.fmod be ≤ whole; omega
  · show -1000000000 < be; omega
  · show be < 1000000000; omega
  · show xs.length ≤ 2000000 - (ab.fmod be).toNat; omega
  · simp only [lrPs, lrStep, List.mem_cons, List.not_mem_nil, or_false] at hp
    rcases hp with rfl | rfl | rfl | rfl | rfl | rfl
    · exact k1
    · exact k2
    · exact k3
    · exact k4
    · exact k5
    · exact k6
  · show (ab.fmod be).toNat < be.toNat; omega
theorem lr_end_emit {x : Addr} {b1 b2 : Tok} {cx : Nat} (F : Fr h₀ L h' m') (N : News h₀ L h' all) (hl : (lt, listOf (vt.toArray.push (.ref x)) ct) ∈ all)
    (hx : (x, listOf [Value.int (came - (ab.fdiv be * up + lu) * whole.fdiv (ab.fdiv be * lo + ll)) b1, Value.int (ab.fdiv be * lo + ll) b2].toArray cx) ∈ all) (hR : ∀ p ∈ R, p ∈ all) (hxl : x ≠ lt)
    (f1 : ∀ p ∈ news, p ∈ R) (f2 : ∀ p ∈ R, p.1 ≠ lt) (f3 : LrItems xs vt R) (hbe : 0 < be) (hbw : be ≤ whole) (hw2 : whole < 1000000) (f8 : xs.length ≤ 2000000 - be.toNat) {ct0 : Nat}
    (hP : LrP came whole ps bound ⟨⟨ab, be, up, lo, lu, ll⟩, t1, t2, t3, t4, t5, t6, vt, ct0, R, xs⟩)
    (k1 : m' (Str.ofString "above") = some (.int be a1)) (k2 : m' (Str.ofString "below") = some (.int (ab.fmod be) a2)) (k3 : m' (Str.ofString "upper") = some (.int (ab.fdiv be * up + lu) a3)) (k4 : m' (Str.ofString "lower") = some (.int (ab.fdiv be * lo + ll) a4)) (k5 : m' (Str.ofString "last_upper") = some (.int up a5)) (k6 : m' (Str.ofString "last_lower") = some (.int lo a6))
    (hs : ∀ z, (∀ p ∈ lrPs (lrNext ab be up lo lu ll a1 a2 a3 a4 a5 a6 vt ct R xs), z ≠ p.1) → lrStored.contains z = false → m' z = m₀ z)
    (hyes : (ab.fdiv be * lo + ll = 1 ∨ ps.any (· == ab.fdiv be * lo + ll) = true) ∧ (if came - (ab.fdiv be * up + lu) * whole.fdiv (ab.fdiv be * lo + ll) < 0 then -(came - (ab.fdiv be * up + lu) * whole.fdiv (ab.fdiv be * lo + ll)) else came - (ab.fdiv be * up + lu) * whole.fdiv (ab.fdiv be * lo + ll)) < bound) :
    KswPost h₀ L s (lrLed lt) lrPs (LrFacts news lt whole) lrStored m₀ (LrP came whole ps bound) (fun c => c.st.be.toNat) Q ⟨⟨ab, be, up, lo, lu, ll⟩, t1, t2, t3, t4, t5, t6, vt, ct0, R, xs⟩ .next { s with heap := h', toks := tk } := by
  have hm := mod_lt (a := ab) hbe
  let xs' : List (Addr × Int × Int) := xs ++ [(x, came - (ab.fdiv be * up + lu) * whole.fdiv (ab.fdiv be * lo + ll), ab.fdiv be * lo + ll)]
  let R' : List (Addr × Obj) := (x, listOf [Value.int (came - (ab.fdiv be * up + lu) * whole.fdiv (ab.fdiv be * lo + ll)) b1, Value.int (ab.fdiv be * lo + ll) b2].toArray cx) :: R
  have hPl : LrP came whole ps bound (lrNext ab be up lo lu ll a1 a2 a3 a4 a5 a6 (vt ++ [.ref x]) ct R' xs') := by
    obtain ⟨N, hN, e⟩ := hP
    have he : lrEmit came whole ps bound (lrStep ⟨ab, be, up, lo, lu, ll⟩) = [(came - (ab.fdiv be * up + lu) * whole.fdiv (ab.fdiv be * lo + ll), ab.fdiv be * lo + ll)] := if_pos hyes
    refine lr_next (st := ⟨ab, be, up, lo, lu, ll⟩) hbe hN e ?_
    rw [he]
    exact List.map_append
  have hit : LrItems xs' (vt ++ [.ref x]) R' := by
    refine ⟨by rw [f3.1]; simp [xs'], fun y hy => ?_⟩
    rcases List.mem_append.mp hy with hy | hy
    · obtain ⟨u1, u2, c, hc⟩ := f3.2 y hy
      exact ⟨u1, u2, c, .tail _ hc⟩
    · rw [List.mem_singleton.mp hy]
      exact ⟨b1, b2, cx, .head _⟩
  refine ksw_end (lrNext ab be up lo lu ll a1 a2 a3 a4 a5 a6 (vt ++ [.ref x]) ct R' xs') F N (fun p hp => ?_) ⟨fun p hp => .tail _ (f1 p hp), fun p hp => ?_, hit, hm.1, ?_, ?_, ?_, ?_⟩ (fun p hp => ?_) hs hPl ?_
  · rcases List.mem_cons.mp hp with rfl | hp
    · have e : (vt ++ [Value.ref x]).toArray = vt.toArray.push (.ref x) := by simp
      show (lt, listOf (vt ++ [Value.ref x]).toArray ct) ∈ all
      rw [e]; exact hl
    · rcases List.mem_cons.mp hp with rfl | hp
      · exact hx
      · exact hR p hp
  · rcases List.mem_cons.mp hp with rfl | hp
    · exact hxl
    · exact f2 p hp
  · show ab.fmod be ≤ whole; omega
  · show -1000000000 < be; omega
  · show be < 1000000000; omega
  · show (xs ++ [_]).length ≤ 2000000 - (ab.fmod be).toNat
    rw [List.length_append, List.length_singleton]; omega
  · simp only [lrPs, lrStep, List.mem_cons, List.not_mem_nil, or_false] at hp
    rcases hp with rfl | rfl | rfl | rfl | rfl | rfl
    · exact k1
    · exact k2
    · exact k3
    · exact k4
    · exact k5
    · exact k6
  · show (ab.fmod be).toNat < be.toNat; omega
end

local macro_rules | `(tactic| walk_at "compareOp In int ref") => `(tactic| (k_here; k_dflt (refine' in_list_ints ?k1 ?k2 ?_; (case k1 => exact News.isList (by k_asm) (by k_mem)); (case k2 => assumption); k_whole)))
set_option maxRecDepth 100000
set_option maxHeartbeats 2000000

theorem lr_spec {w : World} {loose : List Str} {mean : ExcName → Option Value} {mg mb : Str → Option Value} {news : List (Addr × Obj)} {came whole bound : Int} {tc tw tb : Tok} {lp : Addr} {vp : List Value} {cp : Nat} {ps : List Int} {c1 : Addr} {oc1 : Obj} {vs1 : Array Value} {tq1 : Tok} {c2 : Addr} {oc2 : Obj} {vs2 : Array Value} {tq2 : Tok}
    (hlp : (lp, listOf vp.toArray cp) ∈ news) (hip : IntsAre vp ps) (hps : ∀ p ∈ ps, 0 < p ∧ p < 1000) (hw : 0 < whole) (hw2 : whole < 1000000) (hc : -1000000 < came) (hcc : came < 1000000)
    (h30 : (30, tabObj #[rawInt 32, rawInt 4, .ref c1]) ∈ news) (hc1 : (c1, oc1) ∈ news) (hd1 : oc1.data = .fields vs1) (hq1 : vs1[1]? = some (.str (Str.ofString "_int2digits.<locals>.inner") tq1))
    (h37 : (37, tabObj #[rawInt 47, rawInt 4, .ref c2]) ∈ news) (hc2 : (c2, oc2) ∈ news) (hd2 : oc2.data = .fields vs2) (hq2 : vs2[1]? = some (.str (Str.ofString "_digits2int.<locals>.inner") tq2)) :
    Cl PySem.Challenge.rw_rl0041_01.row.prog w (hd.heap_39 w.params) loose mean mg mb 77 news 46 [.int came tc, .int whole tw, .ref lp, .int bound tb]
    (fun h₀ L m s Q => ∀ (lt : Addr) (xs : List (Addr × Int × Int)) (vt : List Value) (ct : Nat) (R : List (Addr × Obj)) (h' : Heap) (tk' : Nat), Fr h₀ L h' m → News h₀ L h' ((lt, listOf vt.toArray ct) :: R) →
      LrItems xs vt R → (∀ p ∈ news, p ∈ R) → xs.map (·.2) = lrAll came whole ps bound → Q (.ref lt) { s with heap := h', toks := tk' }) := by
  w_strict (
  w_top off
  k_fill
  dsimp only [Cl]; intros; rename_i hret
  refine wpAny_call ?_
  k_dflt cell_enter
  k_steps
  (k_dflt (refine' lr_loop (news := news) (came := came) (whole := whole) (bound := bound) (ps := ps) ?kF ?kN ?kl ?k1 ?k2 ?k3 ?k4 ?k5 ?k6 hw hw2 hc hcc ?turn ?kE; (case kF => k_asm); (case kN => (refine' cb_drop ?cbN ?cbS; (case cbN => k_asm); (case cbS => ((repeat (refine List.forall_mem_cons.mpr ⟨by k_mem, ?_⟩)); intro p hp; repeat (first | exact hp | refine List.Mem.tail _ ?_))))); (case kl => k_all); (case k1 => exact rfl); (case k2 => exact rfl); (case k3 => exact rfl); (case k4 => exact rfl); (case k5 => exact rfl); (case k6 => exact rfl)))
  (case kE => passes_own)
  unfold Later
  rintro ⟨⟨ab, be, up, lo, lu, ll⟩, t1, t2, t3, t4, t5, t6, vt, ct, R, xs⟩ u h tk ⟨f1, f2, f3, f4, f5, f6, f7, f8⟩ hP F9 N9
  dsimp only [lrPs, lrLed] at *
  k_steps
  · have hbe : 0 < be := by omega
    have hlp2 := f1 _ hlp
    (k_dflt (refine' cl_go (idm_hit f6 f7 hbe (by omega) (.tail _ (f1 _ h30)) (.tail _ (f1 _ hc1)) hd1 hq1 (.tail _ (f1 _ h37)) (.tail _ (f1 _ hc2)) hd2 hq2) ?k1 ?k2 ?k3 ?k4 ?k5 ?k6 ?k7 ?k8 ?n1 ?n2 ?_; (case k1 => k_asm); (case k2 => k_asm); (case k3 => k_asm); (case k4 => k_asm); (case k5 => k_asm); (case k6 => first | assumption | exact rfl); (case k7 => assumption); (case k8 => assumption); (case n1 => ktr_room); (case n2 => ktr_units)))
    intro D9 s1 s2 c9 h' tk' F' N' LA
    k_lt LA
    have hq := fdiv_small f6 f7 hbe
    have hqb : Builtin.Int.intBits (ab.fdiv be) ≤ 64 := PySem.intBits_le_64 (by omega) (by omega)
    have hwb := fdiv_bits (z := ab.fdiv be * lo + ll) hw hw2
    have hsz : xs.length ≤ 2000000 := by omega
    have hvt : vt.length = xs.length := by rw [f3.1, List.length_map]
    dsimp only
    k_steps
    all_goals try (have hpos := any_pos hps (by assumption); refine floordiv_int (by omega) ?_; k_steps)
    all_goals first
      | (k_dflt (refine' lr_end_emit ?eF ?eN ?el ?ex ?eR ?exl f1 f2 f3 hbe f5 hw2 f8 hP ?k1 ?k2 ?k3 ?k4 ?k5 ?k6 ?es ?ey; (case eF => k_asm); (case eN => k_asm); (case el => k_mem); (case ex => k_mem); (case eR => (intro p hp; repeat (first | exact hp | refine List.Mem.tail _ ?_))); (case k1 => exact rfl); (case k2 => exact rfl); (case k3 => exact rfl); (case k4 => exact rfl); (case k5 => exact rfl); (case k6 => exact rfl); (case exl => (refine neN ?_; omega)); (case es => (intro z h2 h3; (simp only [lrStored, List.contains_cons, List.contains_nil, Bool.or_false, Bool.or_eq_false_iff, beq_eq_false_iff_ne, ne_eq] at h3); simp [kstB, lrStored, h3])); (case ey => exact ⟨by first | exact Or.inl (by assumption) | exact Or.inr (by assumption), by assumption⟩)))
      | (k_dflt (refine' lr_end_none ?eF ?eN ?el ?eR f1 f2 f3 hbe f5 hw2 f8 hP ?k1 ?k2 ?k3 ?k4 ?k5 ?k6 ?es ?ey; (case eF => k_asm); (case eN => k_asm); (case el => k_mem); (case eR => (intro p hp; repeat (first | exact hp | refine List.Mem.tail _ ?_))); (case k1 => exact rfl); (case k2 => exact rfl); (case k3 => exact rfl); (case k4 => exact rfl); (case k5 => exact rfl); (case k6 => exact rfl); (case es => (intro z h2 h3; (simp only [lrStored, List.contains_cons, List.contains_nil, Bool.or_false, Bool.or_eq_false_iff, beq_eq_false_iff_ne, ne_eq] at h3); simp [kstB, lrStored, h3])); (case ey => first | (rintro ⟨_, h9⟩; exact absurd h9 (by assumption)) | (rintro ⟨h8 | h8, _⟩ <;> first | exact absurd h8 (by assumption) | exact absurd (h8.symm.trans (show _ = false by assumption)) (by decide)))))
  · (refine' hret _ xs _ _ _ _ _ ?eF ?eN ?e1 ?e2 ?e3; (case eF => k_asm); (case eN => k_asm); (case e1 => exact f3); (case e2 => exact f1); (case e3 => exact lr_exit hP (by assumption))))

section
open PyProof.Rows.LCg PyProof.Rows.LCt
set_option maxRecDepth 100000
set_option maxHeartbeats 2000000
/-- an element that is an int; the ledger is as it was -/
def EltInt (h₀ : Heap) (L : Addr) (m : Str → Option Value) (s₁ : Shared) (led : List (Addr × Obj)) (P : Int → Prop) (y : Value) (s₂ : Shared) : Prop :=
  ∃ z t h' tk', y = .int z t ∧ s₂ = { s₁ with heap := h', toks := tk' } ∧ Fr h₀ L h' m ∧ News h₀ L h' led ∧ P z
theorem elt_int {h₀ h' : Heap} {L : Addr} {m : Str → Option Value} {s₁ : Shared} {led all : List (Addr × Obj)} {P : Int → Prop} {z : Int} {t : Tok} {tk' : Nat} (F : Fr h₀ L h' m) (N : News h₀ L h' all) (sub : ∀ p ∈ led, p ∈ all) (hz : P z) :
    EltInt h₀ L m s₁ led P (.int z t) { s₁ with heap := h', toks := tk' } := ⟨z, t, h', tk', rfl, rfl, F, fun p hp => N p (sub p hp), hz⟩
def EltNo (h₀ : Heap) (L : Addr) (m : Str → Option Value) (s₁ : Shared) (led : List (Addr × Obj)) (P : Prop) (s₂ : Shared) : Prop :=
  ∃ h' tk', s₂ = { s₁ with heap := h', toks := tk' } ∧ Fr h₀ L h' m ∧ News h₀ L h' led ∧ P
theorem elt_no {h₀ h' : Heap} {L : Addr} {m : Str → Option Value} {s₁ : Shared} {led all : List (Addr × Obj)} {P : Prop} {tk' : Nat} (F : Fr h₀ L h' m) (N : News h₀ L h' all) (sub : ∀ p ∈ led, p ∈ all) (hz : P) :
    EltNo h₀ L m s₁ led P { s₁ with heap := h', toks := tk' } := ⟨h', tk', rfl, F, fun p hp => N p (sub p hp), hz⟩
section
variable {prog : Program} {w : World} {A : Around} {s : Shared} {h₀ : Heap} {L : Addr} {m : Str → Option Value} {env : Env} {elt ct : Expr} {x : Str} {scope : Scope} {cl : List (Str × Addr)} {S : List (Addr × Obj) → Prop} {P : Nat → Value → Prop} {Fin : List Value → List (Addr × Obj) → Prop} {news : List (Addr × Obj)}
theorem comp_ints {R : Nat → Int → Prop} (hS : S news) :
    ∀ (k i : Nat) (ys : List Value) (zs : List Int), IntsAre ys zs →
    (∀ j, i ≤ j → j < i + k → ∀ v I oI C oC D m₂ h tk (E' : Value → Shared → Prop) (ys : List Value), P j v → NsObj oC m₂ → m₂ x = some v → Fr h₀ L h m → News h₀ L h ((I, oI) :: (C, oC) :: (D, lst ys) :: news) → Off3 I C D news → ((@Ne Nat I C) ∧ (@Ne Nat I D) ∧ (@Ne Nat C D)) →
      wpAny (model prog w) A (eval elt (compEnvC scope cl C env)) (EltInt h₀ L m { s with heap := h, toks := tk } ((I, oI) :: (C, oC) :: (D, lst ys) :: news) (R j)) E' { s with heap := h, toks := tk }) →
    (∀ ys' zs', IntsAre ys' (zs ++ zs') → zs'.length = k → (∀ j z, zs'[j]? = some z → R (i + j) z) → Fin ys' news) →
    CompRest prog w A h₀ L m env elt x scope cl s S P Fin k i ys news
  | 0, i, ys, zs, hI, _, done => CompRest.zero (done ys [] (by rw [List.append_nil]; exact hI) rfl (fun j z e => by simp at e))
  | k + 1, i, ys, zs, hI, turn, done => CompRest.succ fun v I oI C oC D m₂ h tk E' hv hC hx F N off ne => by
    refine wpAny_mono (turn i (Nat.le_refl _) (by omega) v I oI C oC D m₂ h tk E' ys hv hC hx F N off ne) (fun y s₂ p => ?_) fun _ _ e => e
    obtain ⟨z, t, h', tk', rfl, rfl, F', N', hz⟩ := p
    refine CompEnd.intro F' N' news (fun _ hp => hp) off hS (comp_ints hS k (i + 1) _ (zs ++ [z]) (IntsAre.append hI (.cons z t .nil)) (fun j h1 h2 => turn j (by omega) (by omega)) ?_)
    intro ys' zs' hI' hl hR
    refine done ys' (z :: zs') (by rw [List.append_assoc] at hI'; exact hI') (by simp [hl]) (fun j z' e => ?_)
    cases j with
    | zero => simp at e; subst e; exact hz
    | succ j => have := hR j z' (by simpa using e); rw [show i + (j + 1) = i + 1 + j by omega]; exact this
theorem comp_test {tst : Nat → Bool} {val : Nat → Int} (hS : S news) :
    ∀ (k i : Nat) (ys : List Value) (zs : List Int), IntsAre ys zs →
    (∀ j, i ≤ j → j < i + k → ∀ v I oI C oC D m₂ h tk (E' : Value → Shared → Prop) (ys : List Value), P j v → NsObj oC m₂ → m₂ x = some v → Fr h₀ L h m → News h₀ L h ((I, oI) :: (C, oC) :: (D, lst ys) :: news) → Off3 I C D news → ((@Ne Nat I C) ∧ (@Ne Nat I D) ∧ (@Ne Nat C D)) →
      wpAny (model prog w) A (isTrue ct (compEnvC scope cl C env) (eval ct (compEnvC scope cl C env))) (fun ok s' => if ok = true then
        wpAny (model prog w) A (eval elt (compEnvC scope cl C env)) (EltInt h₀ L m { s with heap := h, toks := tk } ((I, oI) :: (C, oC) :: (D, lst ys) :: news) (fun z => tst j = true ∧ z = val j)) E' s'
        else EltNo h₀ L m { s with heap := h, toks := tk } ((I, oI) :: (C, oC) :: (D, lst ys) :: news) (tst j = false) s') E' { s with heap := h, toks := tk }) →
    (∀ ys', IntsAre ys' (zs ++ ((List.range' i k).filter tst).map val) → Fin ys' news) →
    CompRestT prog w A h₀ L m env ct elt x scope cl s S P Fin k i ys news
  | 0, i, ys, zs, hI, _, done => CompRestT.zero (done ys (by simpa using hI))
  | k + 1, i, ys, zs, hI, turn, done => CompRestT.succ fun v I oI C oC D m₂ h tk E' hv hC hx F N off ne => by
    refine wpAny_mono (turn i (Nat.le_refl _) (by omega) v I oI C oC D m₂ h tk E' ys hv hC hx F N off ne) (fun ok s' p => ?_) fun _ _ e => e
    cases ok with
    | true =>
      simp only [if_true] at p ⊢
      refine wpAny_mono p (fun y s₂ p => ?_) fun _ _ e => e
      obtain ⟨z, t, h', tk', rfl, rfl, F', N', ht, rfl⟩ := p
      refine CompEnd.intro F' N' news (fun _ hp => hp) off hS (comp_test hS k (i + 1) _ (zs ++ [val i]) (IntsAre.append hI (.cons _ t .nil)) (fun j h1 h2 => turn j (by omega) (by omega)) ?_)
      intro ys' hI'
      refine done ys' ?_
      rw [List.range'_succ, List.filter_cons_of_pos ht, List.map_cons]
      simpa using hI'
    | false =>
      simp only [Bool.false_eq_true, if_false] at p ⊢
      obtain ⟨h', tk', rfl, F', N', ht⟩ := p
      refine CompEnd.intro F' N' news (fun _ hp => hp) off hS (comp_test hS k (i + 1) _ zs hI (fun j h1 h2 => turn j (by omega) (by omega)) ?_)
      intro ys' hI'
      refine done ys' ?_
      rw [List.range'_succ, List.filter_cons_of_neg (by rw [ht]; decide)]
      exact hI'
end
theorem three_ints {ys : List Value} {zs : List Int} (h : IntsAre ys zs) (hl : zs.length = 3) : ∃ H0 H1 H2 t0 t1 t2, ys = [.int H0 t0, .int H1 t1, .int H2 t2] := by
  match zs, hl with
  | [a, b, c], _ =>
    cases h with
    | cons _ t0 h => cases h with
      | cons _ t1 h => cases h with
        | cons _ t2 h => cases h; exact ⟨a, b, c, t0, t1, t2, rfl⟩
/-- a sum of ints of a list of the ledger: some int -/
theorem sum_some {prog : Program} {w : World} {A : Around} {E : Value → Shared → Prop} {s : Shared} {h₀ : Heap} {L : Addr} {m : Str → Option Value} {news : List (Addr × Obj)} {l : Addr} {its : Array Value} {c : Nat} {ns : List Int} {Q : Value → Shared → Prop}
    (hh : A.handled = none) (F : Fr h₀ L s.heap m) (N : News h₀ L s.heap news) (hm : (l, listOf its c) ∈ news) (hi : IntsAre its.toList ns)
    (h : ∀ z h' tk t', Fr h₀ L h' m → News h₀ L h' news → Q (.int z t') { s with heap := h', toks := tk }) : wpAny (model prog w) A (call (.builtin "sum") [.ref l]) Q E s := by
  have e : its = its.toList.toArray := by simp
  exact sumK hh F N (by have := News.isList N hm; rw [e] at this; exact this) hi (fun h' tk t' F' N' => h _ h' tk t' F' N')
end

set_option maxRecDepth 100000
set_option maxHeartbeats 2000000
/-- the four lists of primes -/
def Menu (k : Int) (ps : List Int) : Prop := (k = 0 ∧ ps = [7, 11, 13, 17]) ∨ (k = 1 ∧ ps = [3, 5, 7, 11, 13]) ∨ (k = 2 ∧ ps = [11, 13, 17, 19]) ∨ (k = 3 ∧ ps = [5, 7, 11, 13])
section
variable {prog : Program} {w : World} {A : Around} {E : Value → Shared → Prop} {s : Shared} {h₀ : Heap} {L : Addr} {m : Str → Option Value} {news : List (Addr × Obj)}
theorem pick4 (P : Addr → Prop) {value slice : Expr} {lo a0 a1 a2 a3 : Addr} {c c0 c1 c2 c3 : Nat} {v0 v1 v2 v3 : List Value} {k : Int} {u : Tok} {Q : Value → Shared → Prop} (N : News h₀ L s.heap news)
    (hm : (lo, listOf [Value.ref a0, Value.ref a1, Value.ref a2, Value.ref a3].toArray c) ∈ news) (h0 : (a0, listOf v0.toArray c0) ∈ news) (h1 : (a1, listOf v1.toArray c1) ∈ news) (h2 : (a2, listOf v2.toArray c2) ∈ news) (h3 : (a3, listOf v3.toArray c3) ∈ news)
    (i0 : IntsAre v0 [7, 11, 13, 17]) (i1 : IntsAre v1 [3, 5, 7, 11, 13]) (i2 : IntsAre v2 [11, 13, 17, 19]) (i3 : IntsAre v3 [5, 7, 11, 13]) (p0 : P a0) (p1 : P a1) (p2 : P a2) (p3 : P a3) (hk0 : 0 ≤ k) (hk : k < 4)
    (h : ∀ (a : Addr) (v : List Value) (cc : Nat) (ps : List Int), P a → (a, listOf v.toArray cc) ∈ news → IntsAre v ps → Menu k ps → Q (.ref a) s)
    (hs : subscripted slice false (.ref lo) (.int k u) = operate [.ref lo, .int k u] (getItem (.ref lo) (.int k u)) := by with_unfolding_all rfl) :
    wpAny (model prog w) A (subscriptTail value slice (.ref lo) (.int k u)) Q E s := by
  have hk4 : k = 0 ∨ k = 1 ∨ k = 2 ∨ k = 3 := by omega
  rcases hk4 with rfl | rfl | rfl | rfl
  · exact tail_any (News.isList N hm).typeIs slot_list_getitem.lookup (wpAny_getItem_list (News.isList N hm) (by decide) (by decide) rfl (h a0 v0 c0 _ p0 h0 i0 (.inl ⟨rfl, rfl⟩))) hs
  · exact tail_any (News.isList N hm).typeIs slot_list_getitem.lookup (wpAny_getItem_list (News.isList N hm) (by decide) (by decide) rfl (h a1 v1 c1 _ p1 h1 i1 (.inr (.inl ⟨rfl, rfl⟩)))) hs
  · exact tail_any (News.isList N hm).typeIs slot_list_getitem.lookup (wpAny_getItem_list (News.isList N hm) (by decide) (by decide) rfl (h a2 v2 c2 _ p2 h2 i2 (.inr (.inr (.inl ⟨rfl, rfl⟩))))) hs
  · exact tail_any (News.isList N hm).typeIs slot_list_getitem.lookup (wpAny_getItem_list (News.isList N hm) (by decide) (by decide) rfl (h a3 v3 c3 _ p3 h3 i3 (.inr (.inr (.inr ⟨rfl, rfl⟩))))) hs
end
theorem kstB_self {m : Str → Option Value} {ps : List (Str × Value)} (h : ∀ p ∈ ps, m p.1 = some p.2) : kstB m ps = m := by
  funext z
  exact kstB_eq h fun _ => rfl
/-- forget the frame but for some names, and the ledger but for some objects -/
theorem cut {α : Type} {M : Model} {A : Around} {t : Sem α} {Q : α → Shared → Prop} {E : Value → Shared → Prop} {s : Shared} {h₀ : Heap} {L : Addr} {m : Str → Option Value} {led led' : List (Addr × Obj)} {ps : List (Str × Value)}
    (F : Fr h₀ L s.heap m) (N : News h₀ L s.heap led) (hs : ∀ p ∈ led', p ∈ led) (hk : ∀ p ∈ ps, m p.1 = some p.2)
    (k : Later (∀ (rest : Str → Option Value) (h : Heap) (tk : Nat), Fr h₀ L h (kstB rest ps) → News h₀ L h led' → wpAny M A t Q E { s with heap := h, toks := tk })) : wpAny M A t Q E s := by
  unfold Later at k
  exact k m s.heap s.toks (by rw [kstB_self hk]; exact F) (fun p hp => N p (hs p hp))
theorem menu_len {k : Int} {ps : List Int} (h : Menu k ps) : ps.length = 4 ∨ ps.length = 5 := by
  rcases h with ⟨_, rfl⟩ | ⟨_, rfl⟩ | ⟨_, rfl⟩ | ⟨_, rfl⟩ <;> decide
theorem menu_mem {k : Int} {ps : List Int} (h : Menu k ps) : ∀ p ∈ ps, 3 ≤ p ∧ p ≤ 19 := by
  rcases h with ⟨_, rfl⟩ | ⟨_, rfl⟩ | ⟨_, rfl⟩ | ⟨_, rfl⟩ <;> decide
theorem fmod_bound {a b : Int} (hb : 0 < b) : 0 ≤ a.fmod b ∧ a.fmod b < b := mod_lt hb
theorem menu_at {k : Int} {ps : List Int} (h : Menu k ps) {i : Int} (h0 : 0 ≤ i) (h1 : i < ps.length) : 3 ≤ ps.getD i.toNat 0 ∧ ps.getD i.toNat 0 ≤ 19 := by
  have hlt : i.toNat < ps.length := by omega
  rw [List.getD_eq_getElem?_getD, List.getElem?_eq_getElem hlt]
  exact menu_mem h _ (List.getElem_mem hlt)

set_option maxRecDepth 100000
set_option maxHeartbeats 2000000
abbrev WhM (m₀ : Str → Option Value) (W : Int) (tw : Tok) (op : Option Value) : Str → Option Value := fun y => if y = Str.ofString "whole" then some (.int W tw) else if y = Str.ofString "prime" then op else m₀ y
def WhEnd (m₀ : Str → Option Value) (news : List (Addr × Obj)) (W : Int) (m' : Str → Option Value) (n' : List (Addr × Obj)) : Prop := n' = news ∧ ∃ tw op, m' = WhM m₀ W tw op
theorem whm_start {m₀ : Str → Option Value} {t0 : Tok} (h : m₀ (Str.ofString "whole") = some (.int 1 t0)) : m₀ = WhM m₀ 1 t0 (m₀ (Str.ofString "prime")) := by
  funext y
  unfold WhM
  by_cases h1 : y = Str.ofString "whole"
  · rw [if_pos h1, h1, h]
  · rw [if_neg h1]
    by_cases h2 : y = Str.ofString "prime"
    · rw [if_pos h2, h2]
    · rw [if_neg h2]
theorem whm_turn {m₀ : Str → Option Value} {W W' : Int} {tw tw' : Tok} {op : Option Value} {v : Value} :
    (fun y => if y = Str.ofString "whole" then some (Value.int W' tw') else if y = Str.ofString "prime" then some v else WhM m₀ W tw op y) = WhM m₀ W' tw' (some v) := by
  funext y
  unfold WhM
  by_cases h1 : y = Str.ofString "whole"
  · simp only [h1, if_true]
  · by_cases h2 : y = Str.ofString "prime"
    · simp only [h2, if_true]
    · simp only [h1, h2, if_false]
theorem wh_unr {h₀ h' : Heap} {L I : Addr} {it : Obj} {s₁ : Shared} {tk : Nat} {m₀ : Str → Option Value} {W W' : Int} {tw tw' : Tok} {op : Option Value} {v : Value} {news all : List (Addr × Obj)}
    (F : Fr h₀ L h' (fun y => if y = Str.ofString "whole" then some (Value.int W' tw') else if y = Str.ofString "prime" then some v else WhM m₀ W tw op y)) (N : News h₀ L h' all) (hI : (I, it) ∈ all) (sub : ∀ p ∈ news, p ∈ all) (o1 : ∀ p ∈ news, p.1 < I) :
    UnrEnd h₀ L s₁ I it (WhEnd m₀ news W') { s₁ with heap := h', toks := tk } :=
  UnrEnd.intro F N news (fun p hp => by
    rcases List.mem_cons.mp hp with rfl | hp
    · exact hI
    · exact sub p hp) (fun p hp => Nat.ne_of_lt (o1 p hp)) ⟨rfl, tw', some v, whm_turn⟩
/-- the product -/
def prodL (ps : List Int) : Int := ps.foldl (· * ·) 1
abbrev lastP (ps : List Int) : Int := ps.getD (-1 + (ps.length : Int)).toNat 0
abbrev boundP (ps : List Int) : Int := (prodL ps).fdiv (2 * ps.getD (-1 + (ps.length : Int)).toNat 0 ^ Int.toNat 2)
theorem menu_last {k : Int} {ps : List Int} (h : Menu k ps) : 3 ≤ ps.getD (-1 + (ps.length : Int)).toNat 0 ∧ ps.getD (-1 + (ps.length : Int)).toNat 0 ≤ 19 ∧ 0 < 2 * ps.getD (-1 + (ps.length : Int)).toNat 0 ^ Int.toNat 2 ∧ 2 * ps.getD (-1 + (ps.length : Int)).toNat 0 ^ Int.toNat 2 < 1000 := by
  rcases h with ⟨_, rfl⟩ | ⟨_, rfl⟩ | ⟨_, rfl⟩ | ⟨_, rfl⟩ <;> decide
theorem menu_bound {k : Int} {ps : List Int} (h : Menu k ps) : 14 ≤ (prodL ps).fdiv (2 * ps.getD (-1 + (ps.length : Int)).toNat 0 ^ Int.toNat 2) ∧ (prodL ps).fdiv (2 * ps.getD (-1 + (ps.length : Int)).toNat 0 ^ Int.toNat 2) ≤ 63 ∧ 5005 ≤ prodL ps ∧ prodL ps ≤ 46189 := by
  rcases h with ⟨_, rfl⟩ | ⟨_, rfl⟩ | ⟨_, rfl⟩ | ⟨_, rfl⟩ <;> decide
section
variable {prog : Program} {w : World} {A : Around} {E : Value → Shared → Prop} {s : Shared} {env : Env} {h₀ : Heap} {body : List Stmt} {Q : Flow → Shared → Prop} {lp : Addr} {vp : List Value} {cp : Nat} {ps : List Int} {news : List (Addr × Obj)} {m₀ : Str → Option Value} {t0 : Tok}
theorem wh_loop (hh : A.handled = none) (F : Fr h₀ env.locals s.heap m₀) (N : News h₀ env.locals s.heap news) (hm : (lp, listOf vp.toArray cp) ∈ news) (hi : IntsAre vp ps) (hr : m₀ (Str.ofString "whole") = some (.int 1 t0)) (hps : ∀ p ∈ ps, 3 ≤ p ∧ p ≤ 19)
    (done : ∀ (tw : Tok) (op : Option Value) (h : Heap) (tk : Nat), Fr h₀ env.locals h (WhM m₀ (prodL ps) tw op) → News h₀ env.locals h news → Q .next { s with heap := h, toks := tk })
    (turn : Later (∀ (I : Addr), (∀ p ∈ news, p.1 < I) → ∀ (p : Int) (tp : Tok) (W : Int) (tw : Tok) (op : Option Value) (it : Obj) (h : Heap) (tk : Nat), it.cls = .type "list_iterator" → 3 ≤ p → p ≤ 19 →
      Fr h₀ env.locals h (fun y => if y = Str.ofString "prime" then some (.int p tp) else WhM m₀ W tw op y) → News h₀ env.locals h ((I, it) :: news) →
      wpAny (model prog w) A (execs body env) (UnrPost h₀ env.locals { s with heap := h, toks := tk } I it (WhEnd m₀ news (W * p)) Q) E { s with heap := h, toks := tk })) :
    wpAny (model prog w) A (pyIter (.ref lp)) (fun it s₂ => LoopAtV prog w A h₀ env (Str.ofString "prime") body Q E it s₂) E s := by
  unfold Later at turn
  refine iter_listUnr (lo := listOf vp.toArray cp) (n := cp) hh F N hm rfl rfl fun I hI => ?_
  have key : ∀ (vs : List Value) (zs : List Int) (W : Int) (tw : Tok) (op : Option Value), IntsAre vs zs → (∀ p ∈ zs, 3 ≤ p ∧ p ≤ 19) → zs.foldl (· * ·) W = prodL ps →
      ListRest prog w A E h₀ env (Str.ofString "prime") body Q s I (lp, listOf vp.toArray cp) vs (WhM m₀ W tw op) news := by
    intro vs
    induction vs with
    | nil =>
      intro zs W tw op hz _ e
      cases hz
      have e' : W = prodL ps := e
      subst e'
      exact ListRest.zero (fun h tk F' N' => done tw op h tk F' N')
    | cons v r ih =>
      intro zs W tw op hz hb e
      cases hz with
      | cons p tp hz =>
      refine ListRest.succ fun it h tk hc F' N' => ?_
      have hp := hb p (.head _)
      refine wpAny_mono (turn I hI p tp W tw op it h tk hc hp.1 hp.2 F' N') (fun f s₂ q => ?_) fun _ _ x => x
      have fin : UnrEnd h₀ env.locals { s with heap := h, toks := tk } I it (WhEnd m₀ news (W * p)) s₂ → UnrEnd h₀ env.locals { s with heap := h, toks := tk } I it (fun m' n' => (lp, listOf vp.toArray cp) ∈ n' ∧ ListRest prog w A E h₀ env (Str.ofString "prime") body Q s I (lp, listOf vp.toArray cp) r m' n') s₂ := by
        rintro ⟨h', tk', m', n', e2, F2, N2, o, rfl, tw', op', rfl⟩
        exact ⟨h', tk', _, _, e2, F2, N2, o, hm, ih _ (W * p) tw' op' hz (fun q hq => hb q (.tail _ hq)) e⟩
      cases f with
      | ret v => exact q
      | brk => exact q
      | next => exact fin q
      | cont => exact fin q
  have := key vp ps 1 t0 (m₀ (Str.ofString "prime")) hi hps rfl
  rw [← whm_start hr] at this
  exact this
end

section
open PyProof.Rows.LCg PyProof.Rows.LCt
set_option maxRecDepth 100000
set_option maxHeartbeats 2000000
/-- the first element: an int; the ledger has turned -/
def EltTurn (h₀ : Heap) (L : Addr) (m : Str → Option Value) (s₁ : Shared) (I : Addr) (oI : Obj) (C : Addr) (oC : Obj) (D : Addr) (oD : Obj) (G : List (Addr × Obj) → Prop) (P : Int → Prop) (y : Value) (s₂ : Shared) : Prop :=
  ∃ z t h' tk' news', y = .int z t ∧ s₂ = { s₁ with heap := h', toks := tk' } ∧ Fr h₀ L h' m ∧ News h₀ L h' ((I, oI) :: (C, oC) :: (D, oD) :: news') ∧ Off3 I C D news' ∧ G news' ∧ P z
section
variable {prog : Program} {w : World} {A : Around} {s : Shared} {h₀ : Heap} {L : Addr} {m : Str → Option Value} {env : Env} {elt : Expr} {x : Str} {scope : Scope} {cl : List (Str × Addr)} {S : List (Addr × Obj) → Prop} {P : Nat → Value → Prop} {Fin : List Value → List (Addr × Obj) → Prop} {news : List (Addr × Obj)}
theorem comp_first {R : Nat → Int → Prop} {G : List (Addr × Obj) → Prop} (hGS : ∀ n', G n' → S n') (k : Nat)
    (first : ∀ v I oI C oC D m₂ h tk (E' : Value → Shared → Prop), P 0 v → NsObj oC m₂ → m₂ x = some v → Fr h₀ L h m → News h₀ L h ((I, oI) :: (C, oC) :: (D, lst []) :: news) → Off3 I C D news → ((@Ne Nat I C) ∧ (@Ne Nat I D) ∧ (@Ne Nat C D)) →
      wpAny (model prog w) A (eval elt (compEnvC scope cl C env)) (EltTurn h₀ L m { s with heap := h, toks := tk } I oI C oC D (lst []) G (R 0)) E' { s with heap := h, toks := tk })
    (turn : ∀ news', G news' → ∀ j, 1 ≤ j → j < 1 + k → ∀ v I oI C oC D m₂ h tk (E' : Value → Shared → Prop) (ys : List Value), P j v → NsObj oC m₂ → m₂ x = some v → Fr h₀ L h m → News h₀ L h ((I, oI) :: (C, oC) :: (D, lst ys) :: news') → Off3 I C D news' → ((@Ne Nat I C) ∧ (@Ne Nat I D) ∧ (@Ne Nat C D)) →
      wpAny (model prog w) A (eval elt (compEnvC scope cl C env)) (EltInt h₀ L m { s with heap := h, toks := tk } ((I, oI) :: (C, oC) :: (D, lst ys) :: news') (R j)) E' { s with heap := h, toks := tk })
    (done : ∀ news', G news' → ∀ ys' zs', IntsAre ys' zs' → zs'.length = k + 1 → (∀ j z, zs'[j]? = some z → R j z) → Fin ys' news') :
    CompRest prog w A h₀ L m env elt x scope cl s S P Fin (k + 1) 0 [] news := by
  refine CompRest.succ fun v I oI C oC D m₂ h tk E' hv hC hx F N off ne => ?_
  refine wpAny_mono (first v I oI C oC D m₂ h tk E' hv hC hx F N off ne) (fun y s₂ p => ?_) fun _ _ e => e
  obtain ⟨z, t, h', tk', news', rfl, rfl, F', N', off', hG, hz⟩ := p
  refine CompEnd.intro F' N' news' (fun _ hp => hp) off' (hGS _ hG) (comp_ints (R := R) (hGS _ hG) k 1 _ [z] (.cons z t .nil) (turn news' hG) ?_)
  intro ys' zs' hI' hl hR
  refine done news' hG ys' (z :: zs') hI' (by simp [hl]) (fun j z' e => ?_)
  cases j with
  | zero => simp at e; subst e; exact hz
  | succ j => have := hR j z' (by simpa using e); rw [show j + 1 = 1 + j by omega]; exact this
end
end

set_option maxRecDepth 100000
set_option maxHeartbeats 2000000
/-- what the law builds -/
structure LawP (ps : List Int) (PL FA WH BO SE CA : Int) : Prop where
  menu : ∃ k, Menu k ps
  p0 : 0 ≤ PL
  p1 : PL < ps.length
  f0 : -((ps.getD PL.toNat 0).fdiv 2) ≤ FA
  f1 : FA < ps.getD PL.toNat 0 - (ps.getD PL.toNat 0).fdiv 2
  wh : WH = prodL ps
  bo : BO = boundP ps
  s0 : -BO < SE
  s1 : SE < BO
  ca : CA = SE + FA * WH.fdiv (ps.getD PL.toNat 0)
theorem law_p {k G0 G1 G2 : Int} {ps : List Int} (hm : Menu k ps) :
    LawP ps ((G1.fdiv 4).fmod ps.length) (G2.fmod (ps.getD ((G1.fdiv 4).fmod ps.length).toNat 0) - (ps.getD ((G1.fdiv 4).fmod ps.length).toNat 0).fdiv 2) (prodL ps) (boundP ps) (G0.fmod (2 * boundP ps - 1) - boundP ps + 1)
      (G0.fmod (2 * boundP ps - 1) - boundP ps + 1 + (G2.fmod (ps.getD ((G1.fdiv 4).fmod ps.length).toNat 0) - (ps.getD ((G1.fdiv 4).fmod ps.length).toNat 0).fdiv 2) * (prodL ps).fdiv (ps.getD ((G1.fdiv 4).fmod ps.length).toNat 0)) := by
  have hl := menu_len hm
  have h1 := mod_lt (a := G1.fdiv 4) (b := (ps.length : Int)) (by omega)
  have h2 := menu_at hm h1.1 h1.2
  have h3 := mod_lt (a := G2) (b := ps.getD ((G1.fdiv 4).fmod ps.length).toNat 0) (by omega)
  have hb := menu_bound hm
  have h4 := mod_lt (a := G0) (b := 2 * boundP ps - 1) (by show 0 < 2 * (prodL ps).fdiv _ - 1; omega)
  have hb1 : 14 ≤ boundP ps := hb.1
  refine ⟨⟨k, hm⟩, h1.1, h1.2, ?_, ?_, rfl, rfl, ?_, ?_, rfl⟩ <;> omega
theorem law_cut {M : Model} {A : Around} {t : Sem Flow} {Q : Flow → Shared → Prop} {E : Value → Shared → Prop} {s : Shared} {h₀ : Heap} {L aO aR aC aP aS lp : Addr} {m : Str → Option Value} {led : List (Addr × Obj)} {vp : List Value} {cp : Nat} {oO oR oC oP oS : Obj}
    {ps : List Int} {PL FA WH BO SE CA : Int} {t1 t2 t3 t4 t5 t6 : Tok} {vS : Value}
    (F : Fr h₀ L s.heap m) (N : News h₀ L s.heap led) (hs : ∀ p ∈ ([(30, tabObj #[]), (37, tabObj #[]), (lp, listOf vp.toArray cp), (aO, oO), (aR, oR), (aC, oC), (aP, oP), (aS, oS)] : List (Addr × Obj)), p ∈ led)
    (k1 : m (Str.ofString "place") = some (.int PL t1)) (k2 : m (Str.ofString "fault") = some (.int FA t2)) (k3 : m (Str.ofString "whole") = some (.int WH t3)) (k4 : m (Str.ofString "bound") = some (.int BO t4)) (k5 : m (Str.ofString "sent") = some (.int SE t5))
    (dC : oC.data = .cell (some (.int CA t6))) (dP : oP.data = .cell (some (.ref lp))) (dS : oS.data = .cell (some vS)) (hI : IntsAre vp ps) (hP : LawP ps PL FA WH BO SE CA)
    (k : Later (∀ (oC oP oS : Obj) (vp : List Value) (cp : Nat) (ps : List Int) (PL FA WH BO SE CA : Int) (t1 t2 t3 t4 t5 t6 : Tok) (rest : Str → Option Value) (h : Heap) (tk : Nat), oC.data = .cell (some (.int CA t6)) → oP.data = .cell (some (.ref lp)) → IntsAre vp ps → LawP ps PL FA WH BO SE CA →
      Fr h₀ L h (kstB rest [(Str.ofString "place", .int PL t1), (Str.ofString "fault", .int FA t2), (Str.ofString "whole", .int WH t3), (Str.ofString "bound", .int BO t4), (Str.ofString "sent", .int SE t5)]) →
      News h₀ L h [(30, tabObj #[]), (37, tabObj #[]), (lp, listOf vp.toArray cp), (aO, oO), (aR, oR), (aC, oC), (aP, oP), (aS, oS)] → wpAny M A t Q E { s with heap := h, toks := tk })) : wpAny M A t Q E s := by
  refine cut (ps := [(Str.ofString "place", .int PL t1), (Str.ofString "fault", .int FA t2), (Str.ofString "whole", .int WH t3), (Str.ofString "bound", .int BO t4), (Str.ofString "sent", .int SE t5)]) F N hs ?_ ?_
  · intro p hp
    simp only [List.mem_cons, List.not_mem_nil, or_false] at hp
    rcases hp with rfl | rfl | rfl | rfl | rfl
    · exact k1
    · exact k2
    · exact k3
    · exact k4
    · exact k5
  · unfold Later at *
    intro rest h tk F' N'
    exact k oC oP oS vp cp ps PL FA WH BO SE CA t1 t2 t3 t4 t5 t6 rest h tk dC dP hI hP F' N'

set_option maxRecDepth 100000
set_option maxHeartbeats 2000000
theorem LawP.mem {ps : List Int} {PL FA WH BO SE CA : Int} (h : LawP ps PL FA WH BO SE CA) : ∀ p ∈ ps, 3 ≤ p ∧ p ≤ 19 := by
  obtain ⟨k, hm⟩ := h.menu
  exact menu_mem hm
theorem LawP.len {ps : List Int} {PL FA WH BO SE CA : Int} (h : LawP ps PL FA WH BO SE CA) : ps.length = 4 ∨ ps.length = 5 := by
  obtain ⟨k, hm⟩ := h.menu
  exact menu_len hm
theorem LawP.bounds {ps : List Int} {PL FA WH BO SE CA : Int} (h : LawP ps PL FA WH BO SE CA) : 14 ≤ BO ∧ BO ≤ 63 ∧ 5005 ≤ WH ∧ WH ≤ 46189 ∧ -1000000 < CA ∧ CA < 1000000 := by
  obtain ⟨k, hm⟩ := h.menu
  have hb := menu_bound hm
  have hp := menu_at hm h.p0 h.p1
  have e : boundP ps = BO := h.bo.symm
  have e2 : prodL ps = WH := h.wh.symm
  have hb1 : 14 ≤ boundP ps ∧ boundP ps ≤ 63 := ⟨hb.1, hb.2.1⟩
  have hf0 := h.f0
  have hf1 := h.f1
  have hs0 := h.s0
  have hs1 := h.s1
  have hc := h.ca
  generalize ps.getD PL.toNat 0 = p at *
  rw [Int.fdiv_eq_ediv_of_nonneg _ (by decide)] at hf0 hf1
  rw [Int.fdiv_eq_ediv_of_nonneg _ (by omega)] at hc
  have q0 : 0 ≤ WH / p := Int.ediv_nonneg (by omega) (by omega)
  have q1 : WH / p ≤ WH := Int.ediv_le_self _ (by omega)
  generalize WH / p = q at *
  have m1 : FA * q ≤ 10 * 46189 := by
    rcases Int.lt_or_le FA 0 with hn | hn
    · have := Int.mul_nonneg (a := -FA) (b := q) (by omega) q0
      rw [Int.neg_mul] at this
      omega
    · exact Int.mul_le_mul (by omega) (by omega) q0 (by decide)
  have m2 : -FA * q ≤ 10 * 46189 := by
    rcases Int.lt_or_le FA 0 with hn | hn
    · exact Int.mul_le_mul (by omega) (by omega) q0 (by decide)
    · have := Int.mul_nonneg (a := FA) (b := q) (by omega) q0
      rw [Int.neg_mul]
      omega
  rw [Int.neg_mul] at m2
  omega
theorem LawP.at {ps : List Int} {PL FA WH BO SE CA : Int} (h : LawP ps PL FA WH BO SE CA) {i : Int} (h0 : 0 ≤ i) (h1 : i < ps.length) : 3 ≤ ps.getD i.toNat 0 ∧ ps.getD i.toNat 0 ≤ 19 := by
  obtain ⟨k, hm⟩ := h.menu
  exact menu_at hm h0 h1
theorem gt_nil : ∀ p ∈ ([] : List (Addr × Obj)), 37 < p.1 := fun _ hp => nomatch hp
theorem gt_cons {a : Addr} {o : Obj} {l : List (Addr × Obj)} (h : @LT.lt Nat _ 37 a) (t : ∀ p ∈ l, 37 < p.1) : ∀ p ∈ (a, o) :: l, 37 < p.1 := fun p hp => by
  rcases List.mem_cons.mp hp with rfl | hp
  · exact h
  · exact t p hp
theorem ne_nil {b : Addr} : ∀ p ∈ ([] : List (Addr × Obj)), p.1 ≠ b := fun _ hp => nomatch hp
theorem ne_cons {a b : Addr} {o : Obj} {l : List (Addr × Obj)} (h : @Ne Nat a b) (t : ∀ p ∈ l, p.1 ≠ b) : ∀ p ∈ (a, o) :: l, p.1 ≠ b := fun p hp => by
  rcases List.mem_cons.mp hp with rfl | hp
  · exact h
  · exact t p hp
theorem ints_at {vp : List Value} {ps : List Int} (h : IntsAre vp ps) {j : Nat} {v : Value} (e : vp.toArray[j]? = some v) : ∃ p t, v = .int p t ∧ ps[j]? = some p := by
  have e' : vp[j]? = some v := by simpa using e
  have hl := h.length
  have hj : j < vp.length := by
    rcases Nat.lt_or_ge j vp.length with q | q
    · exact q
    · rw [List.getElem?_eq_none q] at e'; cases e'
  obtain ⟨t, ht⟩ := h.get j (ps.getD j 0) (by rw [List.getD_eq_getElem?_getD, List.getElem?_eq_getElem (by omega)]; rfl)
  rw [e'] at ht
  refine ⟨_, t, Option.some.inj ht, ?_⟩
  rw [List.getD_eq_getElem?_getD, List.getElem?_eq_getElem (by omega)]; rfl
theorem mem_at {ps : List Int} {j : Nat} {p : Int} (h : ps[j]? = some p) : p ∈ ps := List.mem_of_getElem? h
/-- the numbers, place by place -/
theorem rests_all {ps zs : List Int} {f : Int → Int} (hl : zs.length = ps.length) (h : ∀ (j : Nat) (z : Int), zs[j]? = some z → ∃ p, ps[j]? = some p ∧ z = f p) : zs = ps.map f := by
  refine List.ext_getElem? fun j => ?_
  rw [List.getElem?_map]
  cases e : zs[j]? with
  | none =>
    rw [List.getElem?_eq_none_iff] at e
    rw [List.getElem?_eq_none (by omega)]; rfl
  | some z =>
    obtain ⟨p, hp, rfl⟩ := h j z e
    rw [hp]; rfl

section
open PyProof.Rows.LCg PyProof.Rows.LCt
set_option maxRecDepth 100000
set_option maxHeartbeats 2000000
abbrev tab30 (c : Addr) : Obj := tabObj #[rawInt 32, rawInt 4, .ref c]
abbrev tab37 (c : Addr) : Obj := tabObj #[rawInt 47, rawInt 4, .ref c]
/-- the ledger when both code tables are filled -/
def RestG (base : List (Addr × Obj)) (n' : List (Addr × Obj)) : Prop :=
  ∃ c1 oc1 vs1 tq1 c2 oc2 vs2 tq2, n' = (c1, oc1) :: (c2, oc2) :: (30, tab30 c1) :: (37, tab37 c2) :: base ∧ oc1.data = .fields vs1 ∧ vs1[1]? = some (.str (Str.ofString "_int2digits.<locals>.inner") tq1) ∧
    oc2.data = .fields vs2 ∧ vs2[1]? = some (.str (Str.ofString "_digits2int.<locals>.inner") tq2) ∧ 37 < c1 ∧ c1 < c2 ∧ ∀ p ∈ base, p.1 < c1
theorem elt_turn {h₀ h' : Heap} {L : Addr} {m : Str → Option Value} {s₁ : Shared} {I C D : Addr} {oI oC oD : Obj} {G : List (Addr × Obj) → Prop} {P : Int → Prop} {news' all : List (Addr × Obj)} {z : Int} {t : Tok} {tk' : Nat}
    (F : Fr h₀ L h' m) (N : News h₀ L h' all) (sub : ∀ p ∈ (I, oI) :: (C, oC) :: (D, oD) :: news', p ∈ all) (off : ∀ p ∈ news', p.1 ≠ I ∧ p.1 ≠ C ∧ p.1 ≠ D) (hG : G news') (hz : P z) :
    EltTurn h₀ L m s₁ I oI C oC D oD G P (.int z t) { s₁ with heap := h', toks := tk' } :=
  ⟨z, t, h', tk', news', rfl, rfl, F, fun p hp => N p (sub p hp), Off3.of off, hG, hz⟩
theorem apart3 {I C D : Addr} {oI oC oD o1 o2 : Obj} {base : List (Addr × Obj)} (off : Off3 I C D ((30, o1) :: (37, o2) :: base)) (hB : ∀ p ∈ base, 37 < p.1) : Apart ((I, oI) :: (C, oC) :: (D, oD) :: base) := by
  obtain ⟨⟨a1, a2, a3⟩, ⟨b1, b2, b3⟩, _⟩ := off
  intro p hp
  rcases List.mem_cons.mp hp with rfl | hp
  · exact ⟨Ne.symm a1, Ne.symm b1⟩
  rcases List.mem_cons.mp hp with rfl | hp
  · exact ⟨Ne.symm a2, Ne.symm b2⟩
  rcases List.mem_cons.mp hp with rfl | hp
  · exact ⟨Ne.symm a3, Ne.symm b3⟩
  have h1 : (37 : Nat) < p.1 := hB p hp
  exact ⟨Nat.ne_of_gt (Nat.lt_trans (by decide) h1), Nat.ne_of_gt h1⟩
theorem off_turn {I C D c1 c2 : Addr} {oI oC oD o1 o2 oc1 oc2 p1 p2 : Obj} {base : List (Addr × Obj)} (off : Off3 I C D ((30, o1) :: (37, o2) :: base)) (LA : ∀ p ∈ (I, oI) :: (C, oC) :: (D, oD) :: base, p.1 < c1) (h : c1 < c2) :
    ∀ p ∈ (c1, oc1) :: (c2, oc2) :: (30, p1) :: (37, p2) :: base, p.1 ≠ I ∧ p.1 ≠ C ∧ p.1 ≠ D := by
  obtain ⟨a, b, off⟩ := off
  have i1 : I < c1 := LA _ (.head _)
  have i2 : C < c1 := LA _ (.tail _ (.head _))
  have i3 : D < c1 := LA _ (.tail _ (.tail _ (.head _)))
  intro p hp
  rcases List.mem_cons.mp hp with rfl | hp
  · exact ⟨Nat.ne_of_gt i1, Nat.ne_of_gt i2, Nat.ne_of_gt i3⟩
  rcases List.mem_cons.mp hp with rfl | hp
  · exact ⟨Nat.ne_of_gt (Nat.lt_trans i1 h), Nat.ne_of_gt (Nat.lt_trans i2 h), Nat.ne_of_gt (Nat.lt_trans i3 h)⟩
  rcases List.mem_cons.mp hp with rfl | hp
  · exact a
  rcases List.mem_cons.mp hp with rfl | hp
  · exact b
  exact off.mem p hp
end

set_option maxRecDepth 100000
set_option maxHeartbeats 2000000
/-- a turn's end: the iterator stands, what is said of the frame and the ledger holds -/
def CandPost (h₀ : Heap) (L : Addr) (s₁ : Shared) (I : Addr) (it : Obj) (J : (Str → Option Value) → List (Addr × Obj) → Prop) (f : Flow) (s₂ : Shared) : Prop :=
  f = .next ∧ ∃ h' tk m' news', s₂ = { s₁ with heap := h', toks := tk } ∧ Fr h₀ L h' m' ∧ News h₀ L h' ((I, it) :: news') ∧ (∀ p ∈ news', p.1 ≠ I) ∧ J m' news'
section
variable {prog : Program} {w : World} {A : Around} {E : Value → Shared → Prop} {s : Shared} {env : Env} {h₀ : Heap} {x : Str} {px pos : Pos} {body : List Stmt} {Q : Flow → Shared → Prop} {m₀ : Str → Option Value} {news : List (Addr × Obj)}
/-- a loop over a range whose target need not be a local -/
theorem cand_iter {r : Addr} {a b : Int} {t u v : Tok} {n : Nat} (J : Nat → (Str → Option Value) → List (Addr × Obj) → Prop)
    (hh : A.handled = none) (F : Fr h₀ env.locals s.heap m₀) (N : News h₀ env.locals s.heap news) (hr : IsRange s.heap r a b 1 t u v) (hs : Builtin.Range.small a b 1 = true) (hn : Builtin.Range.rangeSize a b 1 = ((n : Nat) : Int)) (h0 : J 0 m₀ news)
    (turn : Later (∀ (I : Addr), (∀ p ∈ news, p.1 < I) → ∀ (i : Nat) (m₁ : Str → Option Value) (news₁ : List (Addr × Obj)) (s₁ : Shared) (it : Obj) (t1 : Tok), i < n → J i m₁ news₁ → (∀ p ∈ news₁, p.1 ≠ I) → Fr h₀ env.locals s₁.heap m₁ → News h₀ env.locals s₁.heap ((I, it) :: news₁) →
      wpAny (model prog w) A (storeName env x (.int (a + (i : Int)) t1)) (fun _ s₃ => wpAny (model prog w) A (execs body env) (CandPost h₀ env.locals s₁ I it (J (i + 1))) E s₃) E s₁))
    (done : ∀ h' tk m' news', Fr h₀ env.locals h' m' → News h₀ env.locals h' news' → J n m' news' → Q .next { s with heap := h', toks := tk }) :
    wpAny (model prog w) A (pyIter (.ref r)) (fun it s₂ => LoopAtT prog w A h₀ env (.Name x px) body Q E it s₂) E s := by
  unfold Later at turn
  have far : ∀ p ∈ news, p.1 < s.heap.objs.size := fun p hp => Heap.lt_size (N p hp).1
  refine wpAny_pyIter_range hr hs ?_
  refine ⟨s.heap.objs.size, [s.heap.objs.size], [s.heap.objs.size], n, _, _, m₀, news, J, rfl, LCg.range_walks hh a n, ?_, ?_, ?_, (by show IsRangeIter _ _ _ _ _; rw [hn]; simpa using Heap.get?_push_size _ rfl), F.push _,
    (fun p hp => ⟨Heap.get?_push_of_some _ (N p hp).1, (N p hp).2⟩), (fun i s' v Q' _ h => wpAny_pure h), h0, ?_, ?_⟩
  · intro hm
    exact absurd F.ns.lt ((List.mem_singleton.mp hm) ▸ Nat.lt_irrefl _)
  · intro b hb
    rw [List.mem_singleton.mp hb]
    exact next_is_new F
  · intro p hp hI
    exact absurd (far p hp) ((List.mem_singleton.mp hI) ▸ Nat.lt_irrefl _)
  · rintro i v m₁ news₁ s₁ own hin ⟨t1, rfl⟩ hJ hoff hown hget hall hst F₁ N₁
    obtain ⟨it, hit⟩ : ∃ it, s₁.heap.get? s.heap.objs.size = some it := ⟨_, hst⟩
    have hmem := hall s.heap.objs.size (List.mem_singleton.mpr rfl) (next_is_new F) it hit
    refine wpAny_assign_Name (wpAny_mono (turn s.heap.objs.size far i m₁ news₁ s₁ it t1 hin hJ (fun p hp e => hoff p hp (List.mem_singleton.mpr e)) F₁ (fun p hp => ?_)) (fun _ s₃ h₃ => wpAny_mono h₃ (fun f s₄ h₄ => ?_) fun _ _ e => e) fun _ _ e => e)
    · rcases List.mem_cons.mp hp with rfl | hp
      · exact N₁ _ (List.mem_append_left _ hmem)
      · exact N₁ _ (List.mem_append_right _ hp)
    · obtain ⟨rfl, h', tk, m', news', e, F', N', off', hJ'⟩ := h₄
      refine ⟨rfl, h', tk, m', news', e, F', fun p hp => ?_, fun p hp hI => off' p hp (List.mem_singleton.mp hI), hJ'⟩
      rcases List.mem_append.mp hp with hp | hp
      · have h1 : p.1 = s.heap.objs.size := List.mem_singleton.mp (hown p hp)
        have h2 := hget p hp
        rw [h1, hit] at h2
        have h3 : p = (s.heap.objs.size, it) := Prod.ext h1 (Option.some.inj h2).symm
        rw [h3]; exact N' _ (.head _)
      · exact N' _ (.tail _ hp)
  · intro h' tk m' news' F' N' _ hJ
    exact done h' tk m' news' F' N' hJ
theorem cand_for {iter : Expr} (_F : Fr h₀ env.locals s.heap m₀) (h : wpAny (model prog w) A (eval iter env) (fun xv s₁ => wpAny (model prog w) A (pyIter xv) (fun it s₂ => LoopAtT prog w A h₀ env (.Name x px) body Q E it s₂) E s₁) E s)
    (hs : ∀ x, foldedSetIterable iter env x = pure x := by intro _; rfl) (hE : PassesOwn (model prog w) A env E := by passes_own) :
    wpAny (model prog w) A (exec (.For (.Name x px) iter body [] pos) env) Q E s := For_invT h₀ h hs hE
end
theorem with_head {P : Prop} {h₀ h : Heap} {L a : Addr} {o : Obj} {r : List (Addr × Obj)} (_N : News h₀ L h ((a, o) :: r)) (k : ∀ a', a' = a → P) : P := k a rfl
theorem with_obj {P : Prop} {o : Obj} {d : Data} (_h : o.data = d) (k : ∀ o', o' = o → P) : P := k o rfl
/-- the frame in the candidates' loop -/
abbrev CandM (m₀ : Str → Option Value) (fl : Option Value) : Str → Option Value := fun y => if y = Str.ofString "flags" then fl else m₀ y
/-- the told candidate -/
abbrev ToldE (R : List (Addr × Obj)) (vt : List Value) (SE : Int) (yes : Bool) (hb : Int) : Prop := ∃ (e : Addr) (t1 t2 : Tok) (c : Nat), vt = [.ref e] ∧ (e, listOf [Value.int SE t1, .bool yes, .int hb t2].toArray c) ∈ R
def CandJ (m₀ : Str → Option Value) (base : List (Addr × Obj)) (aO lt : Addr) (BO SE : Int) (yes : Bool) (hb : Int) (i : Nat) (m₁ : Str → Option Value) (news₁ : List (Addr × Obj)) : Prop :=
  ∃ fl oO c0 vt ct R, m₁ = CandM m₀ fl ∧ news₁ = (aO, oO) :: (lt, listOf vt.toArray ct) :: R ∧ oO.data = .cell c0 ∧ (∀ p ∈ base, p ∈ R) ∧ (∀ p ∈ R, p.1 ≠ aO) ∧ (∀ p ∈ R, p.1 ≠ lt) ∧ aO < lt ∧ vt.length ≤ 1 ∧
    (1 - BO + (i : Int) ≤ SE → vt = []) ∧ (SE < 1 - BO + (i : Int) → ToldE R vt SE yes hb)
theorem candm_start {m₀ : Str → Option Value} : m₀ = CandM m₀ (m₀ (Str.ofString "flags")) := by
  funext y
  unfold CandM
  by_cases h1 : y = Str.ofString "flags"
  · rw [if_pos h1, h1]
  · rw [if_neg h1]
theorem candJ_start {m : Str → Option Value} {base : List (Addr × Obj)} {aO lt : Addr} {BO SE hb : Int} {yes : Bool} {oO : Obj} {c0 : Option Value} {ct : Nat} (hd : oO.data = .cell c0) (h1 : ∀ p ∈ base, p.1 ≠ aO) (h2 : ∀ p ∈ base, p.1 ≠ lt) (h3 : aO < lt) (hs : -BO < SE) :
    CandJ m base aO lt BO SE yes hb 0 m ((aO, oO) :: (lt, listOf ([] : List Value).toArray ct) :: base) :=
  ⟨_, oO, c0, [], ct, base, candm_start, rfl, hd, fun _ hp => hp, h1, h2, h3, Nat.zero_le _, fun _ => rfl, fun h => absurd h (by omega)⟩

set_option maxRecDepth 100000
set_option maxHeartbeats 2000000

/-- one bit alone -/
def sbit (z : Int) : Bool := if z = 0 then false else Builtin.bitAnd z (z - 1) == 0
theorem sb_spec {w : World} {loose : List Str} {mean : ExcName → Option Value} {mg mb : Str → Option Value} {news : List (Addr × Obj)} {z : Int} {t : Tok} :
    Cl PySem.Challenge.rw_rl0041_01.row.prog w (hd.heap_39 w.params) loose mean mg mb 63 news 1 [.int z t] (fun h₀ L m s Q => ∀ (t' : Tok) (h' : Heap) (tk' : Nat), Fr h₀ L h' m → News h₀ L h' news → Q (Value.bool (sbit z)) { s with heap := h', toks := tk' }) := by
  w_strict (
  w_top off
  k_fill
  dsimp only [Cl]; intros; rename_i hret
  refine wpAny_call ?_
  k_dflt cell_enter
  k_steps
  · rw [show sbit z = false from if_pos (by assumption)] at hret
    (refine' hret t _ _ ?eF ?eN; (case eF => k_asm); (case eN => k_asm))
  · rw [show sbit z = (Builtin.bitAnd z (z - 1) == 0) from if_neg (by assumption)] at hret
    (refine' hret t _ _ ?eF ?eN; (case eF => k_asm); (case eN => k_asm)))
theorem hb_spec {w : World} {loose : List Str} {mean : ExcName → Option Value} {mg mb : Str → Option Value} {news : List (Addr × Obj)} {z : Int} {t : Tok} :
    Cl PySem.Challenge.rw_rl0041_01.row.prog w (hd.heap_39 w.params) loose mean mg mb 70 news 1 [.int z t] (fun h₀ L m s Q => ∀ (t' : Tok) (h' : Heap) (tk' : Nat), Fr h₀ L h' m → News h₀ L h' news → Q (Value.int ((Builtin.Int.intBits z : Int) - 1) t') { s with heap := h', toks := tk' }) := by
  w_strict (
  w_top off
  k_fill
  dsimp only [Cl]; intros; rename_i hret
  refine wpAny_call ?_
  k_dflt cell_enter
  k_steps
  (refine' hret _ _ _ ?eF ?eN; (case eF => k_asm); (case eN => k_asm)))

set_option maxRecDepth 100000
set_option maxHeartbeats 2000000
/-- the place's test -/
def tstP (ps : List Int) (CA ONE : Int) (j : Nat) : Bool := ONE.fmod (ps.getD j 0) != CA.fmod (ps.getD j 0)
def bitL (n : Nat) (f : Nat → Bool) : List Int := ((List.range' 0 n).filter f).map fun j => (2 : Int) ^ j
def flagsZ (ps : List Int) (CA ONE : Int) : Int := (bitL ps.length (tstP ps CA ONE)).sum
def fiveB (f : Nat → Bool) (j : Nat) : Bool := [f 0, f 1, f 2, f 3, f 4].getD j false
theorem bitL_five {n : Nat} {f : Nat → Bool} (hn : n ≤ 5) : bitL n f = bitL n (fiveB f) := by
  unfold bitL
  congr 1
  refine List.filter_congr fun j hj => ?_
  have hj5 : j < 5 := by
    have := List.mem_range'_1.mp hj
    omega
  have : j = 0 ∨ j = 1 ∨ j = 2 ∨ j = 3 ∨ j = 4 := by omega
  rcases this with rfl | rfl | rfl | rfl | rfl <;> rfl
def sumB (n : Nat) (l : List Bool) : Int := (bitL n fun j => l.getD j false).sum
def chkB (n : Nat) (l : List Bool) : Bool :=
  decide (0 ≤ sumB n l) && decide (sumB n l < 32) && (List.range n).all fun j => (List.range j).all fun i => !(l.getD i false && l.getD j false) || (decide (sumB n l ≠ 0) && !sbit (sumB n l))
theorem bit_all : ∀ b0 b1 b2 b3 b4 : Bool, ((List.range 6).all fun n => chkB n [b0, b1, b2, b3, b4]) = true := by decide +kernel
theorem bit_chk {n : Nat} (hn : n ≤ 5) (b0 b1 b2 b3 b4 : Bool) : chkB n [b0, b1, b2, b3, b4] = true :=
  List.all_eq_true.mp (bit_all b0 b1 b2 b3 b4) n (List.mem_range.mpr (by omega))
theorem bit_one : ∀ n < 6, ∀ k < n, (bitL n (fun j => j == k)).sum = 2 ^ k ∧ sbit (2 ^ k) = true ∧ (2 : Int) ^ k ≠ 0 ∧ (Builtin.Int.intBits (2 ^ k) : Int) - 1 = k := by decide +kernel
theorem five_at {f : Nat → Bool} {n i : Nat} (hn : n ≤ 5) (hi : i < n) (h : f i = true) : [f 0, f 1, f 2, f 3, f 4].getD i false = true := by
  have : i = 0 ∨ i = 1 ∨ i = 2 ∨ i = 3 ∨ i = 4 := by omega
  rcases this with rfl | rfl | rfl | rfl | rfl <;> exact h
theorem bits_range {n : Nat} {f : Nat → Bool} (hn : n ≤ 5) : 0 ≤ (bitL n f).sum ∧ (bitL n f).sum < 32 := by
  rw [bitL_five hn]
  have h := bit_chk hn (f 0) (f 1) (f 2) (f 3) (f 4)
  unfold chkB at h
  rw [Bool.and_eq_true, Bool.and_eq_true, decide_eq_true_eq, decide_eq_true_eq] at h
  exact h.1
theorem bits_two {n i j : Nat} {f : Nat → Bool} (hn : n ≤ 5) (hj : j < n) (hij : i < j) (h1 : f i = true) (h2 : f j = true) : (bitL n f).sum ≠ 0 ∧ sbit (bitL n f).sum = false := by
  rw [bitL_five hn]
  have h := bit_chk hn (f 0) (f 1) (f 2) (f 3) (f 4)
  unfold chkB at h
  rw [Bool.and_eq_true] at h
  have h3 := List.all_eq_true.mp (List.all_eq_true.mp h.2 j (List.mem_range.mpr hj)) i (List.mem_range.mpr hij)
  rw [five_at hn (by omega) h1, five_at hn hj h2] at h3
  rw [Bool.and_self, Bool.not_true, Bool.false_or, Bool.and_eq_true, decide_eq_true_eq, Bool.not_eq_true'] at h3
  exact h3
/-- the four menus, with the product and the bound -/
def menus : List (List Nat × Nat × Nat) := [([7, 11, 13, 17], 17017, 29), ([3, 5, 7, 11, 13], 15015, 44), ([11, 13, 17, 19], 46189, 63), ([5, 7, 11, 13], 5005, 14)]
theorem menus_two0 : ∀ m ∈ menus, ∀ k < m.1.length, ∀ d < 2 * m.2.2, 0 < d → ((List.range m.1.length).any fun j => (List.range j).any fun i => (i != k) && (j != k) && (d % m.1.getD i 0 != 0) && (d % m.1.getD j 0 != 0)) = true := by decide +kernel
theorem menus_two {m : List Nat × Nat × Nat} (hm : m ∈ menus) {k d : Nat} (hk : k < m.1.length) (hd : d < 2 * m.2.2) (h0 : 0 < d) : ∃ j, j < m.1.length ∧ ∃ i, i < j ∧ i ≠ k ∧ j ≠ k ∧ d % m.1.getD i 0 ≠ 0 ∧ d % m.1.getD j 0 ≠ 0 := by
  obtain ⟨j, hj, h⟩ := List.any_eq_true.mp (menus_two0 m hm k hk d hd h0)
  obtain ⟨i, hi, h⟩ := List.any_eq_true.mp h
  rw [Bool.and_eq_true, Bool.and_eq_true, Bool.and_eq_true, bne_iff_ne, bne_iff_ne, bne_iff_ne, bne_iff_ne] at h
  exact ⟨j, List.mem_range.mp hj, i, List.mem_range.mp hi, h.1.1.1, h.1.1.2, h.1.2, h.2⟩
theorem menus_div : ∀ m ∈ menus, ∀ k < m.1.length, ∀ i < m.1.length, i ≠ k → (m.2.1 / m.1.getD k 0) % m.1.getD i 0 = 0 := by decide +kernel
theorem menus_unit : ∀ m ∈ menus, ∀ k < m.1.length, ∀ f < m.1.getD k 0, 0 < f → (f * (m.2.1 / m.1.getD k 0)) % m.1.getD k 0 ≠ 0 := by decide +kernel
theorem menus_le : ∀ m ∈ menus, m.1.length ≤ 5 ∧ ∀ k < m.1.length, 3 ≤ m.1.getD k 0 := by decide +kernel
theorem menu_nat {k : Int} {ps : List Int} (h : Menu k ps) : ∃ m ∈ menus, ps = m.1.map (fun (n : Nat) => (n : Int)) ∧ prodL ps = (m.2.1 : Int) ∧ boundP ps = (m.2.2 : Int) := by
  rcases h with ⟨_, rfl⟩ | ⟨_, rfl⟩ | ⟨_, rfl⟩ | ⟨_, rfl⟩
  · exact ⟨_, .head _, rfl, by decide, by decide⟩
  · exact ⟨_, .tail _ (.head _), rfl, by decide, by decide⟩
  · exact ⟨_, .tail _ (.tail _ (.head _)), rfl, by decide, by decide⟩
  · exact ⟨_, .tail _ (.tail _ (.tail _ (.head _))), rfl, by decide, by decide⟩
theorem map_at {m : List Nat} {i : Nat} : (m.map (fun (n : Nat) => (n : Int))).getD i 0 = ((m.getD i 0 : Nat) : Int) := by
  rw [List.getD_eq_getElem?_getD, List.getD_eq_getElem?_getD, List.getElem?_map]
  cases m[i]? <;> rfl
theorem fmod_eq_iff {x y : Int} {p : Nat} (hp : 0 < p) : x.fmod p = y.fmod p ↔ (x - y) % (p : Int) = 0 := by
  rw [Int.fmod_eq_emod_of_nonneg _ (by omega), Int.fmod_eq_emod_of_nonneg _ (by omega)]
  exact Int.emod_eq_emod_iff_emod_sub_eq_zero
/-- what the candidates' flags are -/
theorem cand_facts {ps : List Int} {PL FA WH BO SE CA ONE : Int} (h : LawP ps PL FA WH BO SE CA) :
    (0 ≤ flagsZ ps CA ONE ∧ flagsZ ps CA ONE < 32) ∧ (-BO < ONE → ONE < BO → ONE ≠ SE → flagsZ ps CA ONE ≠ 0 ∧ sbit (flagsZ ps CA ONE) = false) ∧
    (ONE = SE → FA = 0 → flagsZ ps CA ONE = 0) ∧ (ONE = SE → FA ≠ 0 → flagsZ ps CA ONE ≠ 0 ∧ sbit (flagsZ ps CA ONE) = true ∧ (Builtin.Int.intBits (flagsZ ps CA ONE) : Int) - 1 = PL) := by
  obtain ⟨k, hm⟩ := h.menu
  obtain ⟨m, hmm, rfl, e1, e2⟩ := menu_nat hm
  have hlen : (m.1.map (fun (n : Nat) => (n : Int))).length = m.1.length := List.length_map _
  obtain ⟨le5, pos⟩ := menus_le m hmm
  obtain ⟨q, rfl⟩ : ∃ q : Nat, PL = q := ⟨PL.toNat, by have := h.p0; omega⟩
  have p1 := h.p1
  rw [hlen] at p1
  have hq : q < m.1.length := by omega
  have hw := h.wh.trans e1
  have hb := h.bo.trans e2
  have ca := h.ca
  have f0 := h.f0
  have f1 := h.f1
  have s0 := h.s0
  have s1 := h.s1
  rw [map_at, Int.toNat_natCast] at ca f0 f1
  rw [Int.fdiv_eq_ediv_of_nonneg _ (by decide)] at f0 f1
  have pq := pos q hq
  -- the share of the other primes
  have hdiv : (WH.fdiv ((m.1.getD q 0 : Nat) : Int)) = ((m.2.1 / m.1.getD q 0 : Nat) : Int) := by
    rw [hw, Int.fdiv_eq_ediv_of_nonneg _ (by omega)]; rfl
  rw [hdiv] at ca
  have tst_eq : ∀ j, j < m.1.length → tstP (m.1.map (fun (n : Nat) => (n : Int))) CA ONE j = !decide ((ONE - CA) % ((m.1.getD j 0 : Nat) : Int) = 0) := by
    intro j hj
    unfold tstP
    rw [map_at]
    have hpj := pos j hj
    generalize m.1.getD j 0 = pj at hpj ⊢
    have := fmod_eq_iff (x := ONE) (y := CA) (p := pj) (by omega)
    by_cases e : ONE.fmod (pj : Int) = CA.fmod (pj : Int)
    · rw [decide_eq_true (this.mp e), Bool.not_true, e]
      exact bne_self_eq_false _
    · have e' : ¬ (ONE - CA) % (pj : Int) = 0 := fun q => e (this.mpr q)
      rw [decide_eq_false e', Bool.not_false]
      exact bne_iff_ne.mpr e
  have other : ∀ j, j < m.1.length → j ≠ q → ((ONE - CA) % ((m.1.getD j 0 : Nat) : Int) = 0 ↔ (ONE - SE) % ((m.1.getD j 0 : Nat) : Int) = 0) := by
    intro j hj hne
    have hd := menus_div m hmm q hq j hj hne
    have hd' : ((m.2.1 / m.1.getD q 0 : Nat) : Int) % ((m.1.getD j 0 : Nat) : Int) = 0 := by exact_mod_cast hd
    obtain ⟨c, hc⟩ := Int.dvd_of_emod_eq_zero hd'
    have e : ONE - CA = ONE - SE - ((m.1.getD j 0 : Nat) : Int) * (FA * c) := by
      rw [ca, hc]
      grind
    rw [e, Int.sub_mul_emod_self_left]
  refine ⟨?_, ?_, ?_, ?_⟩
  · exact bits_range (by rw [hlen]; exact le5)
  · intro o0 o1 hne
    have hd0 : 0 < (ONE - SE).natAbs := by omega
    have hd1 : (ONE - SE).natAbs < 2 * m.2.2 := by omega
    obtain ⟨j, hj, i, hij, hik, hjk, hi0, hj0⟩ := menus_two hmm hq hd1 hd0
    have big : ∀ l, l < m.1.length → l ≠ q → (ONE - SE).natAbs % m.1.getD l 0 ≠ 0 → tstP (m.1.map (fun (n : Nat) => (n : Int))) CA ONE l = true := by
      intro l hl hlq h0
      rw [tst_eq l hl]
      have : ¬ (ONE - CA) % ((m.1.getD l 0 : Nat) : Int) = 0 := by
        intro e
        have e' := (other l hl hlq).mp e
        have d := Int.dvd_of_emod_eq_zero e'
        have d2 := Int.natAbs_dvd_natAbs.mpr d
        rw [Int.natAbs_natCast] at d2
        exact h0 (Nat.mod_eq_zero_of_dvd d2)
      rw [decide_eq_false this]; rfl
    exact bits_two (by rw [hlen]; exact le5) (by rw [hlen]; exact hj) hij (big i (by omega) hik hi0) (big j hj hjk hj0)
  · intro e0 fa0
    subst e0 fa0
    have hz : bitL (m.1.map (fun (n : Nat) => (n : Int))).length (tstP (m.1.map (fun (n : Nat) => (n : Int))) CA ONE) = [] := by
      unfold bitL
      rw [List.map_eq_nil_iff, List.filter_eq_nil_iff]
      intro j hj
      have hj' : j < m.1.length := by
        have := List.mem_range'_1.mp hj
        rw [hlen] at this; omega
      have e : ONE - CA = 0 := by rw [ca]; omega
      rw [tst_eq j hj', e]
      simp
    unfold flagsZ
    rw [hz]; rfl
  · intro e0 fa0
    subst e0
    have hz : bitL (m.1.map (fun (n : Nat) => (n : Int))).length (tstP (m.1.map (fun (n : Nat) => (n : Int))) CA ONE) = bitL m.1.length (fun j => j == q) := by
      rw [hlen]
      unfold bitL
      congr 1
      refine List.filter_congr fun j hj => ?_
      have hj' : j < m.1.length := by
        have := List.mem_range'_1.mp hj
        omega
      rw [tst_eq j hj']
      by_cases hjq : j = q
      · subst hjq
        have hu := menus_unit m hmm j hj' FA.natAbs (by omega) (by omega)
        have : ¬ (ONE - CA) % ((m.1.getD j 0 : Nat) : Int) = 0 := by
          intro e
          have d := Int.dvd_of_emod_eq_zero e
          have e3 : ONE - CA = -(FA * ((m.2.1 / m.1.getD j 0 : Nat) : Int)) := by rw [ca]; omega
          rw [e3, Int.dvd_neg] at d
          have d2 := Int.natAbs_dvd_natAbs.mpr d
          rw [Int.natAbs_natCast, Int.natAbs_mul, Int.natAbs_natCast] at d2
          exact hu (Nat.mod_eq_zero_of_dvd d2)
        rw [decide_eq_false this, beq_self_eq_true]; rfl
      · have e : (ONE - ONE) % ((m.1.getD j 0 : Nat) : Int) = 0 := by rw [Int.sub_self]; rfl
        have := (other j hj' hjq).mpr e
        rw [decide_eq_true this, beq_eq_false_iff_ne.mpr hjq]; rfl
    have hb1 := bit_one m.1.length (by omega) q hq
    unfold flagsZ
    rw [hz, hb1.1]
    exact ⟨hb1.2.2.1, hb1.2.1, hb1.2.2.2⟩
theorem tst_yes {ps : List Int} {CA ONE : Int} {j : Nat} (hj : (j : Int) < ps.length) (h : ONE.fmod (ps.getD (j : Int).toNat 0) ≠ (ps.map (fun p => CA.fmod p)).getD (j : Int).toNat 0) : tstP ps CA ONE j = true := by
  have hj' : j < ps.length := by omega
  rw [Int.toNat_natCast, List.getD_eq_getElem?_getD, List.getD_eq_getElem?_getD, List.getElem?_map, List.getElem?_eq_getElem hj'] at h
  unfold tstP
  rw [List.getD_eq_getElem?_getD, List.getElem?_eq_getElem hj']
  exact bne_iff_ne.mpr h
theorem tst_no {ps : List Int} {CA ONE : Int} {j : Nat} (hj : (j : Int) < ps.length) (h : ONE.fmod (ps.getD (j : Int).toNat 0) = (ps.map (fun p => CA.fmod p)).getD (j : Int).toNat 0) : tstP ps CA ONE j = false := by
  have hj' : j < ps.length := by omega
  rw [Int.toNat_natCast, List.getD_eq_getElem?_getD, List.getD_eq_getElem?_getD, List.getElem?_map, List.getElem?_eq_getElem hj'] at h
  unfold tstP
  rw [List.getD_eq_getElem?_getD, List.getElem?_eq_getElem hj']
  exact bne_eq_false_iff_eq.mpr h
/-- a sum of ints of a list of the ledger -/
theorem sum_exact {prog : Program} {w : World} {A : Around} {E : Value → Shared → Prop} {s : Shared} {h₀ : Heap} {L : Addr} {m : Str → Option Value} {news : List (Addr × Obj)} {l : Addr} {ys : List Value} {ns : List Int} {Q : Value → Shared → Prop}
    {z : Int} (hh : A.handled = none) (F : Fr h₀ L s.heap m) (N : News h₀ L s.heap news) (hi : IntsAre ys ns) (hz : ns.sum = z) (hm : (l, LCg.lst ys) ∈ news)
    (h : ∀ h' tk t', Fr h₀ L h' m → News h₀ L h' news → Q (.int z t') { s with heap := h', toks := tk }) : wpAny (model prog w) A (call (.builtin "sum") [.ref l]) Q E s :=
  sumK hh F N (News.isList N hm) hi (fun h' tk t' F' N' => by rw [hz]; exact h h' tk t' F' N')

/-- the fraction a / P seen from a state of Euclid's run of came and W -/
structure LgI (a P W : Int) (s : LrS) (u v : Int) : Prop where
  i1 : a = u * s.up + v * s.lu
  i2 : P = u * s.lo + v * s.ll
  i3 : W = s.ab * s.lo + s.be * s.ll
  i4 : 2 * P * (v * s.ab - u * s.be) < W
  i5 : -W < 2 * P * (v * s.ab - u * s.be)
  i6 : ∃ x y, x * u + y * v = 1
  i7 : s.up * s.ll - s.lu * s.lo = 1 ∨ s.up * s.ll - s.lu * s.lo = -1
  b0 : 0 ≤ s.be
  b1 : s.be < s.ab
  l0 : 1 ≤ s.lo
  l1 : 0 ≤ s.ll
theorem quo_pos {a b : Int} (hb : 0 < b) (h : b < a) : 1 ≤ a.fdiv b := by
  rw [Int.fdiv_eq_ediv_of_nonneg _ (by omega)]
  exact (Int.le_ediv_iff_mul_le hb).mpr (by omega)
theorem lg_step {a P W : Int} {s : LrS} {u v : Int} (h : LgI a P W s u v) (hb : 0 < s.be) : LgI a P W (lrStep s) v (u - s.ab.fdiv s.be * v) ∧ 1 ≤ s.ab.fdiv s.be := by
  obtain ⟨i1, i2, i3, i4, i5, ⟨x, y, i6⟩, i7, b0, b1, l0, l1⟩ := h
  have hq := quo_pos hb b1
  have hm := mod_lt (a := s.ab) hb
  have hd := Int.fdiv_mul_add_fmod s.ab s.be
  have hql : 0 ≤ s.ab.fdiv s.be * s.lo := Int.mul_nonneg (by omega) (by omega)
  have hql1 : 1 * 1 ≤ s.ab.fdiv s.be * s.lo := Int.mul_le_mul hq l0 (by omega) (by omega)
  cases s with
  | mk ab be up lo lu ll =>
  simp only [lrStep] at *
  generalize ab.fdiv be = q at *
  generalize ab.fmod be = r at *
  have e : (u - q * v) * be - v * r = -(v * ab - u * be) := by grind
  have e2 : 2 * P * -(v * ab - u * be) = -(2 * P * (v * ab - u * be)) := by grind
  refine ⟨⟨by grind, by grind, by grind, ?_, ?_, ⟨x * q + y, x, by grind⟩, ?_, hm.1, hm.2, ?_, ?_⟩, hq⟩
  · show 2 * P * ((u - q * v) * be - v * r) < W
    rw [e, e2]; omega
  · show -W < 2 * P * ((u - q * v) * be - v * r)
    rw [e, e2]; omega
  · show (q * up + lu) * lo - up * (q * lo + ll) = 1 ∨ (q * up + lu) * lo - up * (q * lo + ll) = -1
    have : (q * up + lu) * lo - up * (q * lo + ll) = -(up * ll - lu * lo) := by grind
    rw [this]; omega
  · show 1 ≤ q * lo + ll; omega
  · show 0 ≤ lo; omega
/-- the run goes on while the fraction is not reached -/
theorem lg_be {a P W : Int} {s : LrS} {u v : Int} (h : LgI a P W s u v) (hu : 1 ≤ u) (hv : 1 ≤ v) : 0 < s.be := by
  obtain ⟨i1, i2, i3, i4, i5, i6, i7, b0, b1, l0, l1⟩ := h
  rcases Int.lt_or_eq_of_le b0 with hb | hb
  · exact hb
  · exfalso
    cases s with
    | mk ab be up lo lu ll =>
    simp only at *
    rw [← hb] at i3 i4 b1
    have h1 : 1 * lo ≤ u * lo := Int.mul_le_mul_of_nonneg_right hu (by omega)
    have h2 : 0 ≤ v * ll := Int.mul_nonneg (by omega) l1
    have h3 : 1 * ab ≤ v * ab := Int.mul_le_mul_of_nonneg_right hv (by omega)
    have h4 : lo * ab ≤ P * (v * ab) := Int.mul_le_mul (by omega) (by omega) (by omega) (by omega)
    have h5 : 1 * 1 ≤ lo * ab := Int.mul_le_mul (by omega) (by omega) (by omega) (by omega)
    have e1 : 2 * P * (v * ab - u * 0) = 2 * (P * (v * ab)) := by grind
    have e2 : ab * lo + 0 * ll = lo * ab := by grind
    omega
theorem lg_quo {a P W : Int} {s : LrS} {u v : Int} (h : LgI a P W s u v) (hu : 1 ≤ u) (hv : 1 ≤ v) : 0 ≤ u - s.ab.fdiv s.be * v := by
  have hb := lg_be h hu hv
  obtain ⟨i1, i2, i3, i4, i5, i6, i7, b0, b1, l0, l1⟩ := h
  have hq := quo_pos hb b1
  have hm := mod_lt (a := s.ab) hb
  have hd := Int.fdiv_mul_add_fmod s.ab s.be
  cases s with
  | mk ab be up lo lu ll =>
  simp only at *
  generalize ab.fdiv be = q at *
  generalize ab.fmod be = r at *
  rcases Int.lt_or_le (u - q * v) 0 with hn | hn
  · exfalso
    obtain ⟨t, ht⟩ : ∃ t, t = q * v - u := ⟨_, rfl⟩
    have ht1 : 1 ≤ t := by omega
    have e1 : v * ab - u * be = v * r + t * be := by grind
    rw [e1] at i4
    have e2 : 2 * P * (v * r + t * be) = 2 * (u * v * (r * lo)) + 2 * (u * t) * (lo * be) + 2 * (v * v * (r * ll)) + 2 * (v * t) * (ll * be) := by grind
    have e3 : ab * lo + be * ll = q * (lo * be) + r * lo + ll * be := by grind
    have p1 : 0 ≤ r * lo := Int.mul_nonneg hm.1 (by omega)
    have p2 : 0 ≤ lo * be := Int.mul_nonneg (by omega) (by omega)
    have p3 : 0 ≤ ll * be := Int.mul_nonneg (by omega) (by omega)
    have p4 : 0 ≤ r * ll := Int.mul_nonneg hm.1 (by omega)
    have uv : 1 * 1 ≤ u * v := Int.mul_le_mul hu hv (by omega) (by omega)
    have vv : 0 ≤ v * v := Int.mul_nonneg (by omega) (by omega)
    have vt : 1 * 1 ≤ v * t := Int.mul_le_mul hv ht1 (by omega) (by omega)
    have ut : 0 ≤ (u - 1) * (t - 1) := Int.mul_nonneg (by omega) (by omega)
    have qv : q * 1 ≤ q * v := Int.mul_le_mul_of_nonneg_left hv (by omega)
    have ut2 : (u - 1) * (t - 1) = u * t - u - t + 1 := by grind
    have hut : q ≤ 2 * (u * t) := by omega
    have m1 : 1 * (r * lo) ≤ (u * v) * (r * lo) := Int.mul_le_mul_of_nonneg_right (by omega) p1
    have m2 : q * (lo * be) ≤ 2 * (u * t) * (lo * be) := Int.mul_le_mul_of_nonneg_right hut p2
    have m3 : 0 ≤ v * v * (r * ll) := Int.mul_nonneg vv p4
    have m4 : 1 * (ll * be) ≤ 2 * (v * t) * (ll * be) := Int.mul_le_mul_of_nonneg_right (by omega) p3
    omega
  · exact hn
/-- what the statement's numbers satisfy -/
structure LgN (a P W came sent bound : Int) (ps : List Int) : Prop where
  n1 : came * P = sent * P + a * W
  n2 : -bound < sent
  n3 : sent < bound
  n4 : P = 1 ∨ P ∈ ps
  n5 : ∀ z, (z = 1 ∨ z ∈ ps) → 1 ≤ z ∧ W.fdiv z * z = W ∧ 2 * P * z * bound ≤ W
  n6 : ∃ x y, x * a + y * P = 1
theorem lt_abs {x b : Int} : (if x < 0 then -x else x) < b ↔ -b < x ∧ x < b := by
  split <;> omega
theorem lg_one {a P W : Int} {s : LrS} {u : Int} (h : LgI a P W s u 0) (hP : 1 ≤ P) : u = 1 ∧ s.up = a ∧ s.lo = P := by
  obtain ⟨i1, i2, i3, i4, i5, ⟨x, y, i6⟩, i7, b0, b1, l0, l1⟩ := h
  rw [Int.zero_mul, Int.add_zero] at i1 i2
  rw [Int.mul_zero, Int.add_zero] at i6
  have hu : 0 < u := by
    rcases Int.lt_or_le 0 u with h | h
    · exact h
    · have := Int.mul_nonneg (a := -u) (b := s.lo) (by omega) (by omega)
      rw [Int.neg_mul] at this
      omega
  have : u = 1 := Int.eq_one_of_mul_eq_one_left (by omega) i6
  subst this
  omega
theorem lg_emit_yes {a P W came sent bound : Int} {ps : List Int} {s : LrS} {u : Int} (n : LgN a P W came sent bound ps) (h : LgI a P W s u 0) : lrEmit came W ps bound s = [(sent, P)] := by
  obtain ⟨n1, n2, n3, n4, n5, n6⟩ := n
  have hP := n5 P n4
  obtain ⟨_, e1, e2⟩ := lg_one h hP.1
  have hl : lrLeft came W s = sent := by
    unfold lrLeft
    rw [e1, e2]
    have : (came - a * W.fdiv P) * P = sent * P := by
      have h2 := hP.2.1
      generalize W.fdiv P = k at *
      grind
    exact Int.eq_of_mul_eq_mul_right (by omega) this
  unfold lrEmit
  rw [if_pos, hl, e2]
  refine ⟨?_, ?_⟩
  · rw [e2]
    rcases n4 with h | h
    · exact .inl h
    · exact .inr (List.any_eq_true.mpr ⟨P, h, by simp⟩)
  · rw [hl, lt_abs]; exact ⟨n2, n3⟩
theorem lg_emit_no {a P W came sent bound : Int} {ps : List Int} {s : LrS} {u v : Int} (n : LgN a P W came sent bound ps) (h : LgI a P W s u v) (hv : v ≠ 0) : lrEmit came W ps bound s = [] := by
  obtain ⟨n1, n2, n3, n4, n5, n6⟩ := n
  unfold lrEmit
  refine if_neg fun hh => hv ?_
  obtain ⟨h1, h2⟩ := hh
  rw [lt_abs] at h2
  have hz : s.lo = 1 ∨ s.lo ∈ ps := by
    rcases h1 with h | h
    · exact .inl h
    · obtain ⟨p, hp, e⟩ := List.any_eq_true.mp h
      have : p = s.lo := by simpa using e
      exact .inr (this ▸ hp)
  have hP := n5 P n4
  obtain ⟨z1, z2, z3⟩ := n5 s.lo hz
  obtain ⟨i1, i2, i3, i4, i5, i6, i7, b0, b1, l0, l1⟩ := h
  unfold lrLeft at h2
  cases s with
  | mk ab be up lo lu ll =>
  simp only at *
  generalize W.fdiv lo = k at *
  -- P lo (came - up k) - P lo sent = W (a lo - P up)
  have e : P * lo * (came - up * k) - P * lo * sent = W * (a * lo - P * up) := by grind
  have hPl : 1 * 1 ≤ P * lo := Int.mul_le_mul hP.1 z1 (by omega) (by omega)
  have f1 : P * lo * (came - up * k) < P * lo * bound := Int.mul_lt_mul_of_pos_left h2.2 (by omega)
  have f2 : P * lo * -bound < P * lo * (came - up * k) := Int.mul_lt_mul_of_pos_left h2.1 (by omega)
  have f3 : P * lo * sent < P * lo * bound := Int.mul_lt_mul_of_pos_left n3 (by omega)
  have f4 : P * lo * -bound < P * lo * sent := Int.mul_lt_mul_of_pos_left n2 (by omega)
  rw [Int.mul_neg] at f2 f4
  have z4 : 2 * P * lo * bound = 2 * (P * lo * bound) := by grind
  have hW : 0 < W := by
    have : 1 * 1 ≤ ab * lo := Int.mul_le_mul (by omega) l0 (by omega) (by omega)
    have := Int.mul_nonneg (a := be) (b := ll) b0 l1
    omega
  have g1 : W * (a * lo - P * up) < W * 1 := by omega
  have g2 : W * (-1) < W * (a * lo - P * up) := by omega
  have g3 := Int.lt_of_mul_lt_mul_left g1 (by omega)
  have g4 := Int.lt_of_mul_lt_mul_left g2 (by omega)
  have g5 : a * lo - P * up = 0 := by omega
  have g6 : a * lo - P * up = -(v * (up * ll - lu * lo)) := by grind
  rcases i7 with h | h <;> rw [h] at g6 <;> omega
theorem lg_after {a P W came sent bound : Int} {ps : List Int} (n : LgN a P W came sent bound ps) : ∀ (N : Nat) (s : LrS) (u v : Int), LgI a P W s u v → ((1 ≤ v ∧ u ≤ 0) ∨ (v ≤ -1 ∧ 0 ≤ u) ∨ (v = 0 ∧ u = 1)) → lrRun came W ps bound N s = []
  | 0, _, _, _, _, _ => rfl
  | N + 1, s, u, v, h, hk => by
    unfold lrRun
    by_cases hb : s.be = 0
    · rw [if_pos hb]
    · rw [if_neg hb]
      have b0 := h.b0
      obtain ⟨h', hq⟩ := lg_step h (by omega)
      generalize s.ab.fdiv s.be = q at *
      have key : u - q * v ≠ 0 ∧ ((1 ≤ u - q * v ∧ v ≤ 0) ∨ (u - q * v ≤ -1 ∧ 0 ≤ v) ∨ (u - q * v = 0 ∧ v = 1)) := by
        rcases hk with ⟨h1, h2⟩ | ⟨h1, h2⟩ | ⟨h1, h2⟩
        · have : 1 * 1 ≤ q * v := Int.mul_le_mul hq h1 (by omega) (by omega)
          omega
        · have : 1 * 1 ≤ q * -v := Int.mul_le_mul hq (by omega) (by omega) (by omega)
          rw [Int.mul_neg] at this
          omega
        · subst h1 h2
          rw [Int.mul_zero]; omega
      rw [lg_emit_no n h' key.1, lg_after n N _ _ _ h' key.2]
      rfl
theorem lg_before {a P W came sent bound : Int} {ps : List Int} (n : LgN a P W came sent bound ps) : ∀ (N : Nat) (s : LrS) (u v : Int), LgI a P W s u v → 1 ≤ u → 1 ≤ v → s.be.toNat ≤ N → lrRun came W ps bound N s = [(sent, P)]
  | 0, s, u, v, h, hu, hv, hN => by
    have := lg_be h hu hv
    omega
  | N + 1, s, u, v, h, hu, hv, hN => by
    have hb := lg_be h hu hv
    have h0 := lg_quo h hu hv
    obtain ⟨h', hq⟩ := lg_step h hb
    have hm := mod_lt (a := s.ab) hb
    unfold lrRun
    rw [if_neg (by omega)]
    rcases Int.lt_or_eq_of_le h0 with hp | hp
    · rw [lg_emit_no n h' (by omega), lg_before n N _ _ _ h' hv (by omega) (by show (s.ab.fmod s.be).toNat ≤ N; omega)]
      rfl
    · rw [← hp] at h'
      have h1 := lg_one h' (n.n5 P n.n4).1
      rw [lg_emit_yes n h', lg_after n N _ _ _ h' (.inr (.inr ⟨rfl, h1.1⟩))]
      rfl
theorem lg_all {a P W came sent bound : Int} {ps : List Int} (n : LgN a P W came sent bound ps) (hW : 0 < W) : lrAll came W ps bound = [(sent, P)] := by
  have hP := n.n5 P n.n4
  have hm := mod_lt (a := came) hW
  have hd := Int.fdiv_mul_add_fmod came W
  obtain ⟨x, y, hxy⟩ := n.n6
  have hs : 2 * P * P * sent < W ∧ -W < 2 * P * P * sent := by
    have z3 := hP.2.2
    have hPP : 1 * 1 ≤ P * P := Int.mul_le_mul hP.1 hP.1 (by omega) (by omega)
    have f3 : P * P * sent < P * P * bound := Int.mul_lt_mul_of_pos_left n.n3 (by omega)
    have f4 : P * P * -bound < P * P * sent := Int.mul_lt_mul_of_pos_left n.n2 (by omega)
    rw [Int.mul_neg] at f4
    have e1 : 2 * P * P * sent = 2 * (P * P * sent) := by grind
    have e2 : 2 * P * P * bound = 2 * (P * P * bound) := by grind
    omega
  have h1 : LgI a P W (lrStep ⟨came, W, 1, 0, 0, 1⟩) P (a - came.fdiv W * P) := by
    have n1 := n.n1
    generalize hq : came.fdiv W = q at *
    generalize hr : came.fmod W = r at *
    have e : (a - q * P) * W - P * r = -(sent * P) := by grind
    have e2 : 2 * P * -(sent * P) = -(2 * P * P * sent) := by grind
    have s1 : lrStep ⟨came, W, 1, 0, 0, 1⟩ = ⟨W, r, q * 1 + 0, q * 0 + 1, 1, 0⟩ := by rw [← hq, ← hr]; rfl
    rw [s1]
    refine ⟨?_, ?_, ?_, ?_, ?_, ⟨x * q + y, x, ?_⟩, ?_, hm.1, hm.2, ?_, ?_⟩ <;> (try simp only [])
    · grind
    · grind
    · grind
    · rw [e, e2]; omega
    · rw [e, e2]; omega
    · grind
    · right; grind
    · grind
    · decide
  have h0 : 0 ≤ a - came.fdiv W * P := by
    have n1 := n.n1
    generalize came.fdiv W = q at *
    generalize came.fmod W = r at *
    have e : (a - q * P) * W = P * r - sent * P := by grind
    have p1 : 0 ≤ P * r := Int.mul_nonneg (by omega) hm.1
    have p2 : sent * P < W := by
      have : 2 * P * P * sent = 2 * (P * (sent * P)) := by grind
      rcases Int.lt_or_le (sent * P) 1 with h | h
      · omega
      · have : 1 * (sent * P) ≤ P * (sent * P) := Int.mul_le_mul_of_nonneg_right hP.1 (by omega)
        omega
    have g : (-1) * W < (a - q * P) * W := by omega
    have := Int.lt_of_mul_lt_mul_right g (by omega)
    omega
  unfold lrAll
  obtain ⟨N, hN⟩ : ∃ N, W.toNat = N + 1 := ⟨W.toNat - 1, by omega⟩
  rw [hN]
  unfold lrRun
  rw [if_neg (by show ¬ W = 0; omega)]
  rcases Int.lt_or_eq_of_le h0 with hp | hp
  · rw [lg_emit_no n h1 (by omega), lg_before n N _ _ _ h1 (by omega) (by omega) (by show (came.fmod W).toNat ≤ N; omega)]
    rfl
  · rw [← hp] at h1
    have h2 := lg_one h1 hP.1
    rw [lg_emit_yes n h1, lg_after n N _ _ _ h1 (.inr (.inr ⟨rfl, h2.1⟩))]
    rfl

set_option maxRecDepth 100000
set_option maxHeartbeats 2000000
theorem menus_run : ∀ m ∈ menus, ∀ z ∈ 1 :: m.1, ∀ p ∈ 1 :: m.1, 1 ≤ z ∧ m.2.1 / z * z = m.2.1 ∧ 2 * p * z * m.2.2 ≤ m.2.1 := by decide +kernel
theorem menus_inv0 : ∀ m ∈ menus, ∀ k < m.1.length, ∀ f < m.1.getD k 0, 0 < f → ((List.range (m.1.getD k 0)).any fun x => (x * f) % m.1.getD k 0 == 1) = true := by decide +kernel
theorem bezout {m : List Nat × Nat × Nat} (hm : m ∈ menus) {k : Nat} (hk : k < m.1.length) {a : Int} (h0 : a ≠ 0) (h1 : a.natAbs < m.1.getD k 0) : ∃ x y : Int, x * a + y * (m.1.getD k 0 : Nat) = 1 := by
  obtain ⟨x, _, hx⟩ := List.any_eq_true.mp (menus_inv0 m hm k hk a.natAbs h1 (by omega))
  have hx : (x * a.natAbs) % m.1.getD k 0 = 1 := by simpa using hx
  have e := Nat.mod_add_div (x * a.natAbs) (m.1.getD k 0)
  rw [hx] at e
  generalize m.1.getD k 0 = p at *
  generalize (x * a.natAbs) / p = q at *
  have e' : (1 : Int) + p * q = x * (a.natAbs : Int) := by exact_mod_cast e
  rcases Int.lt_or_le a 0 with hn | hn
  · refine ⟨-x, -q, ?_⟩
    have : (a.natAbs : Int) = -a := by omega
    rw [this] at e'
    grind
  · refine ⟨x, -q, ?_⟩
    have : (a.natAbs : Int) = a := by omega
    rw [this] at e'
    grind
theorem getD_mem {m : List Nat} {k : Nat} (hk : k < m.length) : m.getD k 0 ∈ m := by
  rw [List.getD_eq_getElem?_getD, List.getElem?_eq_getElem hk]
  exact List.getElem_mem hk
/-- what Euclid's run tells -/
theorem run_facts {ps : List Int} {PL FA WH BO SE CA : Int} (h : LawP ps PL FA WH BO SE CA) : lrAll CA WH ps BO = [(SE, if FA = 0 then 1 else ps.getD PL.toNat 0)] := by
  obtain ⟨k, hm⟩ := h.menu
  obtain ⟨m, hmm, rfl, e1, e2⟩ := menu_nat hm
  have hlen : (m.1.map (fun (n : Nat) => (n : Int))).length = m.1.length := List.length_map _
  obtain ⟨le5, pos⟩ := menus_le m hmm
  obtain ⟨q, rfl⟩ : ∃ q : Nat, PL = q := ⟨PL.toNat, by have := h.p0; omega⟩
  have p1 := h.p1
  rw [hlen] at p1
  have hq : q < m.1.length := by omega
  have hw := h.wh.trans e1
  have hb := h.bo.trans e2
  have ca := h.ca
  have f0 := h.f0
  have f1 := h.f1
  have s0 := h.s0
  have s1 := h.s1
  rw [map_at, Int.toNat_natCast] at ca f0 f1 ⊢
  rw [Int.fdiv_eq_ediv_of_nonneg _ (by decide)] at f0 f1
  have pq := pos q hq
  have hWp : 0 < WH := by
    have := h.bounds
    omega
  obtain ⟨P, hP⟩ : ∃ P : Nat, P = if FA = 0 then 1 else m.1.getD q 0 := ⟨_, rfl⟩
  have hPm : P ∈ 1 :: m.1 := by
    rw [hP]
    split
    · exact .head _
    · exact .tail _ (getD_mem hq)
  have goalP : (if FA = 0 then 1 else ((m.1.getD q 0 : Nat) : Int)) = (P : Int) := by
    rw [hP]
    split <;> rfl
  rw [goalP]
  refine lg_all (a := FA) ⟨?_, s0, s1, ?_, ?_, ?_⟩ hWp
  · by_cases fa : FA = 0
    · subst fa
      rw [Int.zero_mul, Int.add_zero] at ca
      rw [ca]; omega
    · rw [if_neg fa] at hP
      subst hP
      have r := (menus_run m hmm _ (.tail _ (getD_mem hq)) 1 (.head _)).2.1
      have hdiv : (WH.fdiv ((m.1.getD q 0 : Nat) : Int)) * ((m.1.getD q 0 : Nat) : Int) = WH := by
        rw [hw, Int.fdiv_eq_ediv_of_nonneg _ (by omega)]
        exact_mod_cast r
      rw [ca]
      generalize WH.fdiv ((m.1.getD q 0 : Nat) : Int) = c at *
      generalize ((m.1.getD q 0 : Nat) : Int) = p at *
      grind
  · rcases List.mem_cons.mp hPm with e | e
    · exact .inl (by rw [e]; rfl)
    · exact .inr (List.mem_map.mpr ⟨P, e, rfl⟩)
  · intro z hz
    obtain ⟨y, hy, rfl⟩ : ∃ y ∈ 1 :: m.1, z = ((y : Nat) : Int) := by
      rcases hz with rfl | hz
      · exact ⟨1, .head _, rfl⟩
      · obtain ⟨y, hy, e⟩ := List.mem_map.mp hz
        exact ⟨y, .tail _ hy, e.symm⟩
    obtain ⟨r1, r2, r3⟩ := menus_run m hmm y hy P hPm
    refine ⟨by omega, ?_, ?_⟩
    · rw [hw, Int.fdiv_eq_ediv_of_nonneg _ (by omega)]
      exact_mod_cast r2
    · rw [hw, hb]
      exact_mod_cast r3
  · by_cases fa : FA = 0
    · rw [if_pos fa] at hP
      exact ⟨0, 1, by rw [hP]; omega⟩
    · rw [if_neg fa] at hP
      rw [hP]
      exact bezout hmm hq fa (by omega)

set_option maxRecDepth 100000
set_option maxHeartbeats 2000000
section
variable {h₀ h' : Heap} {L I aO lt : Addr} {it oO : Obj} {s₁ : Shared} {tk : Nat} {m₀ : Str → Option Value} {v : Value} {fl : Option Value} {base R all : List (Addr × Obj)} {vt : List Value} {ct i : Nat} {c0 : Option Value} {BO SE ONE hb : Int} {yes : Bool}
theorem candm_turn : (fun y => if y = Str.ofString "flags" then some v else CandM m₀ fl y) = CandM m₀ (some v) := by
  funext y
  unfold CandM
  by_cases h1 : y = Str.ofString "flags"
  · simp only [h1, if_true]
  · simp only [h1, if_false]
theorem cand_end_skip (F : Fr h₀ L h' (fun y => if y = Str.ofString "flags" then some v else CandM m₀ fl y)) (N : News h₀ L h' all) (hI : (I, it) ∈ all) (hO : (aO, oO) ∈ all) (hL : (lt, listOf vt.toArray ct) ∈ all) (hR : ∀ p ∈ R, p ∈ all) (hd : oO.data = .cell c0)
    (f1 : ∀ p ∈ base, p ∈ R) (f2 : ∀ p ∈ R, p.1 ≠ aO) (f3 : ∀ p ∈ R, p.1 ≠ lt) (f4 : aO < lt) (f5 : vt.length ≤ 1) (f6 : ONE ≤ SE → vt = []) (f7 : SE < ONE → ToldE R vt SE yes hb) (hIa : aO ≠ I) (hIl : lt ≠ I) (hneR : ∀ p ∈ R, p.1 ≠ I)
    (hO1 : ONE = 1 - BO + (i : Int)) (hne : ONE ≠ SE) : CandPost h₀ L s₁ I it (CandJ m₀ base aO lt BO SE yes hb (i + 1)) .next { s₁ with heap := h', toks := tk } := by
  refine ⟨rfl, h', tk, _, (aO, oO) :: (lt, listOf vt.toArray ct) :: R, rfl, F, fun p hp => ?_, fun p hp => ?_, _, oO, c0, vt, ct, R, candm_turn, rfl, hd, f1, f2, f3, f4, f5, fun h => f6 (by omega), fun h => f7 (by omega)⟩
  · rcases List.mem_cons.mp hp with rfl | hp
    · exact N _ hI
    rcases List.mem_cons.mp hp with rfl | hp
    · exact N _ hO
    rcases List.mem_cons.mp hp with rfl | hp
    · exact N _ hL
    exact N _ (hR p hp)
  · rcases List.mem_cons.mp hp with rfl | hp
    · exact hIa
    rcases List.mem_cons.mp hp with rfl | hp
    · exact hIl
    exact hneR p hp
theorem cand_end_add {e : Addr} {t1 t2 : Tok} {c : Nat} {yes' : Bool} {hb' : Int} (F : Fr h₀ L h' (fun y => if y = Str.ofString "flags" then some v else CandM m₀ fl y)) (N : News h₀ L h' all) (hI : (I, it) ∈ all) (hO : (aO, oO) ∈ all) (hL : (lt, listOf (vt.toArray.push (.ref e)) ct) ∈ all)
    (he : (e, listOf [Value.int ONE t1, Value.bool yes', Value.int hb' t2].toArray c) ∈ all) (hR : ∀ p ∈ R, p ∈ all) (hd : oO.data = .cell c0)
    (f1 : ∀ p ∈ base, p ∈ R) (f2 : ∀ p ∈ R, p.1 ≠ aO) (f3 : ∀ p ∈ R, p.1 ≠ lt) (f4 : aO < lt) (f6 : ONE ≤ SE → vt = []) (hIa : aO ≠ I) (hIl : lt ≠ I) (hneR : ∀ p ∈ R, p.1 ≠ I)
    (e1 : e ≠ aO) (e2 : e ≠ lt) (e3 : e ≠ I) (hO1 : ONE = 1 - BO + (i : Int)) (heq : ONE = SE) (hy : yes' = yes) (hh : hb' = hb) : CandPost h₀ L s₁ I it (CandJ m₀ base aO lt BO SE yes hb (i + 1)) .next { s₁ with heap := h', toks := tk } := by
  subst heq hy hh
  have hv := f6 (Int.le_refl _)
  subst hv
  refine ⟨rfl, h', tk, _, (aO, oO) :: (lt, listOf ([Value.ref e] : List Value).toArray ct) :: (e, listOf [Value.int ONE t1, Value.bool yes', Value.int hb' t2].toArray c) :: R, rfl, F, fun p hp => ?_, fun p hp => ?_,
    _, oO, c0, [.ref e], ct, (e, listOf [Value.int ONE t1, Value.bool yes', Value.int hb' t2].toArray c) :: R, candm_turn, rfl, hd, fun p hp => .tail _ (f1 p hp), fun p hp => ?_, fun p hp => ?_, f4, Nat.le_refl _, fun h => absurd h (by omega), fun _ => ⟨e, t1, t2, c, rfl, .head _⟩⟩
  · rcases List.mem_cons.mp hp with rfl | hp
    · exact N _ hI
    rcases List.mem_cons.mp hp with rfl | hp
    · exact N _ hO
    rcases List.mem_cons.mp hp with rfl | hp
    · exact N _ hL
    rcases List.mem_cons.mp hp with rfl | hp
    · exact N _ he
    exact N _ (hR p hp)
  · rcases List.mem_cons.mp hp with rfl | hp
    · exact hIa
    rcases List.mem_cons.mp hp with rfl | hp
    · exact hIl
    rcases List.mem_cons.mp hp with rfl | hp
    · exact e3
    exact hneR p hp
  · rcases List.mem_cons.mp hp with rfl | hp
    · exact e1
    exact f2 p hp
  · rcases List.mem_cons.mp hp with rfl | hp
    · exact e2
    exact f3 p hp
end
/-- the three ways of a candidate -/
theorem cand_ways {ps : List Int} {PL FA WH BO SE CA ONE z : Int} (h : LawP ps PL FA WH BO SE CA) (hz : (bitL ps.length (tstP ps CA ONE)).sum = z) (o0 : -BO < ONE) (o1 : ONE < BO) :
    (ONE ≠ SE ∧ z ≠ 0 ∧ sbit z = false) ∨ (ONE = SE ∧ FA = 0 ∧ z = 0) ∨ (ONE = SE ∧ FA ≠ 0 ∧ z ≠ 0 ∧ sbit z = true ∧ (Builtin.Int.intBits z : Int) - 1 = PL) := by
  obtain ⟨_, c1, c2, c3⟩ := cand_facts (ONE := ONE) h
  have hz' : flagsZ ps CA ONE = z := hz
  rw [hz'] at c1 c2 c3
  by_cases e : ONE = SE
  · by_cases f : FA = 0
    · exact .inr (.inl ⟨e, f, c2 e f⟩)
    · obtain ⟨d1, d2, d3⟩ := c3 e f
      exact .inr (.inr ⟨e, f, d1, d2, d3⟩)
  · obtain ⟨d1, d2⟩ := c1 o0 o1 e
    exact .inl ⟨e, d1, d2⟩
theorem one_told {xs : List (Addr × Int × Int)} {vt : List Value} {R : List (Addr × Obj)} {a b : Int} (h : LrItems xs vt R) (e : xs.map (·.2) = [(a, b)]) : ∃ (x : Addr) (t1 t2 : Tok) (c : Nat), vt = [.ref x] ∧ (x, listOf [Value.int a t1, Value.int b t2].toArray c) ∈ R := by
  obtain ⟨rfl, h2⟩ := h
  match xs, e with
  | [(x, a', b')], e =>
    have e' : (a', b') = (a, b) := by simpa using e
    cases e'
    obtain ⟨t1, t2, c, hc⟩ := h2 _ (.head _)
    exact ⟨x, t1, t2, c, rfl, hc⟩
theorem LawP.small {ps : List Int} {PL FA WH BO SE CA : Int} (h : LawP ps PL FA WH BO SE CA) : ∀ p ∈ ps, 0 < p ∧ p < 1000 := fun p hp => by
  have := h.mem p hp
  omega

local macro_rules | `(tactic| walk_at "call builtin:sum") => `(tactic| (k_here; k_dflt (refine' sum_some ?k0 ?k1 ?k2 ?k3 ?k4 ?_; (case k0 => exact rfl); (case k1 => k_asm); (case k2 => k_asm); (case k3 => k_mem); (case k4 => exact IntsAre.pick (by assumption) _ _ _); k_whole); intro z' h' tk' t' F' N'))
local macro_rules | `(tactic| walk_at "subscriptTail Name Name ref int") => `(tactic| (k_here; k_dflt (refine' item_my ?k1 ?k2 ?k3 ?k4 ?k5 ?k6 ?_ ?k7 ?k8; (case k1 => k_asm); (case k2 => k_mem); (case k3 => assumption); (case k4 => omega); (case k5 => omega); (case k6 => omega); (case k7 => with_unfolding_all rfl); (case k8 => (intro _; with_unfolding_all rfl)); k_whole); intro t'))
local macro_rules | `(tactic| walk_at "call builtin:sum") => `(tactic| (k_here; k_dflt (refine' sum_exact ?k0 ?k1 ?k2 ?k3 ?k5 ?k4 ?_; (case k0 => exact rfl); (case k1 => k_asm); (case k2 => k_asm); (case k3 => assumption); (case k5 => assumption); (case k4 => k_mem); k_whole); intro h' tk' t' F' N'))
local macro_rules | `(tactic| walk_at "binaryOp Pow int int") => `(tactic| (k_here; (with_reducible refine pow_int_small ?kb1 ?kb2 ?kb3 ?_); (case kb1 => omega); (case kb2 => omega); (case kb3 => first | decide | omega)))
set_option maxRecDepth 100000
set_option maxHeartbeats 8000000
structure HideP (P : Prop) : Prop where
  out : P
def lawA : PSigma fun P : Prop => (HideP P → PySem.Challenge.rw_rl0041_01.Holds) := ⟨_, fun K => hd (by
  w_strict (
  k_go0
  (all_goals try k_fold)
  rename_i w s₀ s₁ mg mb G Y fa o pm cd doc ho hcd hg X V T B TE TW wi hs hlay0 hL hr hl2 a1 a2 la lv l2 hL2 ra w1 r0 hIs hr2 hc1 hc2 hD h₁ tk₁ wO wR wC wP wS dO dR dC dP dS X0 X1 T1 K1 F1 cH N1 l37 l0
  k_steps
  (refine LCg.CompSrc.range (by rfl) (by k_asm) (by k_asm) (by assumption) (by first | decide | rfl) (by first | rfl | decide) (by first | size_fits | exact Nat.le_of_ble_eq_true rfl) ?_; intro g'; lcg_lit)
  refine comp_ints (R := fun _ _ => True) trivial _ _ _ _ .nil ?turn ?done
  (case turn =>
    intro j hj1 hj2 v I oI C oC D m₂ h tk E' ys hv hC hx F N off ne
    obtain ⟨t9, rfl⟩ := hv
    (try simp only [LCg.Off3, and_true] at off)
    have hj3 : j < 3 := hj2
    clear hj1 hj2
    have hj : j = 0 ∨ j = 1 ∨ j = 2 := by omega
    clear hj3
    rcases hj with rfl | rfl | rfl
    all_goals k_steps
    all_goals (refine' elt_int ?eF ?eN ?eS True.intro; (case eF => k_asm); (case eN => k_asm); (case eS => ((repeat (refine List.forall_mem_cons.mpr ⟨by k_mem, ?_⟩)); exact List.forall_mem_nil _))))
  intro ys' zs' hI hl _
  obtain ⟨H0, H1, H2, u0, u1, u2, rfl⟩ := three_ints hI hl
  clear hI hl
  unfold LCg.FinA
  intro DH hH tkH FH NH oH
  simp only [LCg.Off1, and_true] at oH
  (try simp only [List.nil_append, List.cons_append] at NH)
  dsimp only
  k_steps
  (k_dflt (refine' pick4 (fun a => (DH : Nat) < a ∧ s₁.heap.objs.size + 1 + 1 + 1 + 1 + 1 < a ∧ 37 < a) ?kN ?km ?k0 ?k1 ?k2 ?k3 ?i0 ?i1 ?i2 ?i3 ?p0 ?p1 ?p2 ?p3 ?kl ?kh ?_ ?ks; (case kN => k_asm); (case km => k_mem); (case k0 => k_mem); (case k1 => k_mem); (case k2 => k_mem); (case k3 => k_mem); (case i0 => repeat constructor); (case i1 => repeat constructor); (case i2 => repeat constructor); (case i3 => repeat constructor); (case kl => exact (fmod_bound (by decide)).1); (case kh => exact (fmod_bound (by decide)).2); (case ks => with_unfolding_all rfl)))
  (case p0 => exact ⟨by omega, by omega, by omega⟩)
  (case p1 => exact ⟨by omega, by omega, by omega⟩)
  (case p2 => exact ⟨by omega, by omega, by omega⟩)
  (case p3 => exact ⟨by omega, by omega, by omega⟩)
  intro lp vp cp ps hlpP hlp hip hmenu
  refine' cut (led' := [(lp, listOf vp.toArray cp), (DH, LCg.lst [.int H0 u0, .int H1 u1, .int H2 u2]), (_, wO), (_, wR), (_, wC), (_, wP), (_, wS), (37, tabObj #[]), (30, tabObj #[])]) (ps := [(Str.ofString "heaps", .ref DH)]) ?cF ?cN ?cs ?ck ?_
  (case cF => k_asm)
  (case cN => k_asm)
  (case cs => ((repeat (refine List.forall_mem_cons.mpr ⟨by k_mem, ?_⟩)); exact List.forall_mem_nil _))
  (case ck => exact List.forall_mem_cons.mpr ⟨rfl, List.forall_mem_nil _⟩)
  unfold Later
  intro mr h tk F2 N2
  have hlen := menu_len hmenu
  have hmem := menu_mem hmenu
  k_sweep
  clear hlp
  have hpl := fmod_bound (a := ([H0, H1, H2].getD (Int.toNat 1) 0).fdiv 4) (b := (ps.length : Int)) (by omega)
  have hpp := menu_at hmenu hpl.1 hpl.2
  (try dsimp only)
  k_steps
  (rename Fr _ _ _ _ => lF')
  (with_unfolding_all refine' For_invVF lF' ?k1 ?k2 ?_; (case k1 => exact rfl); (case k2 => exact rfl))
  k_steps
  (k_dflt (refine' wh_loop ?hh ?kF ?kN ?hm ?hi ?hr ?hps ?_ ?turn; (case hh => exact rfl); (case kF => k_asm); (case kN => k_asm); (case hm => k_mem); (case hi => assumption); (case hr => exact rfl); (case hps => assumption)))
  (case turn =>
    unfold Later
    intro I hI p tp W tw op it h9 tk9 hc p1 p2 F9 N9
    k_steps
    (k_dflt (refine' wh_unr ?uF ?uN ?uI ?us ?uo; (case uF => k_asm); (case uN => k_asm); (case uI => k_mem); (case us => (intro p hp; repeat (first | exact hp | refine List.Mem.tail _ ?_))); (case uo => exact hI))))
  intro tw op h3 tk3 F3 N3
  have hlast := menu_last hmenu
  have hbd := menu_bound hmenu
  (try dsimp only)
  k_steps
  w_top off
  refine' law_cut (aO := s₁.heap.objs.size + 1 + 1 + 1 + 1 + 1) (aR := s₁.heap.objs.size + 1 + 1 + 1 + 1) (aC := s₁.heap.objs.size + 1 + 1 + 1) (aP := s₁.heap.objs.size + 1 + 1) (aS := s₁.heap.objs.size + 1) (oO := wO) (oR := wR) (oS := wS) (lp := lp) (by k_asm) (by k_asm) ?cs ?k1 ?k2 ?k3 ?k4 ?k5 ?dC ?dP dS ?hI (law_p hmenu) ?_
  (case k1 => exact rfl)
  (case k2 => exact rfl)
  (case k3 => exact rfl)
  (case k4 => exact rfl)
  (case k5 => exact rfl)
  (case hI => exact hip)
  (case dC => assumption)
  (case dP => assumption)
  (case cs => ((repeat (refine List.forall_mem_cons.mpr ⟨by k_mem, ?_⟩)); exact List.forall_mem_nil _))
  have hlp2 : s₁.heap.objs.size + 1 + 1 + 1 + 1 + 1 < lp ∧ 37 < lp := hlpP.2
  unfold Later
  dsimp only
  rename_i q1 q2 q3 q4 q5 q6 q7 q8 q9 q10 q11 q12 q13 q14 q15 q16 q17 q18 q19 q20 q21 q22 q23 q24 q25 q26 q27 q28 q29 q30 q31 q32 q33 q34 q35 q36 q37 q38 q39 q40 q41 q42 q43 q44 q45 q46 q47 q48 q49 q50 q51 q52 q53 q54 q55 q56 q57 q58 q59 q60 q61 q62 q63 q64 q65 q66 q67 q68 q69 q70 q71 q72 q73 q74 q75 q76 q77 q78 q79 q80 q81 q82 q83 q84 q85 q86 q87 q88 q89 q90 q91 q92
  clear tk hbd hlast N3 F3 tk3 h3 op tw hpp hpl hmem hlen h mr hmenu hip hlpP ps cp vp oH tkH hH DH u2 u1 u0 H2 H1 H0 zs' g' q92 q91 q90 q89 q88 q87 q86 q85 q84 q83 q82 q81 q80 q79 q78 q77 q76 q75 q74 q73 q72 q71 q70 q69 q68 q67 q66 q65 q64 q63 q62 q61 q60 q59 q58 q57 q56 q55 q54 q53 q52 q51 q50 q49 q48 q47 q46 q45 q44 q43 q42 q41 q40 q39 q38 q37 q36 q35 q34 q33 q32 q31 q30 q29 q28 q27 q26 q25 q24 q23 q22 q21 q20 q19 q18 q17 q16 q15 q14 q13 q12 q11 q10 q9 q8 q7 q6 q5 q4 q3 q2 q1
  revert w s₀ s₁ mg mb G Y fa o pm cd doc ho hcd hg hT8 X V T B TE TW hT9 wi hs hlay0 hL hr hl2 a1 a2 la lv l2 hL2 ra w1 r0 hIs hr2 hc1 hc2 hD h₁ tk₁ wO wR wC wP wS dO dR dC dP dS X0 X1 T1 K1 lifted cH codeHd l37 l0 lp
  exact K.out))⟩
theorem lawB : lawA.1 := by
  w_strict (
  w_top off
  intro w s₀ s₁ mg mb G Y fa o pm cd doc ho hcd hg hT8 X V T B TE TW hT9 wi hs hlay0 hL hr hl2 a1 a2 la lv l2 hL2 ra w1 r0 hIs hr2 hc1 hc2 hD h₁ tk₁ wO wR wC wP wS dO dR dC dP dS X0 X1 T1 K1 lifted cH codeHd l37 l0 lp hlp2
  intro qC qP qS vp2 cp2 ps2 PL FA WH BO SE CA t1 t2 t3 t4 t5 t6 rest h3 tk3 dC2 dP2 hI2 LP F3 N3
  k_sweep
  have kp : 37 < s₁.heap.objs.size ∧ True := ⟨by omega, True.intro⟩
  (repeat (rename (@LT.lt Nat _ _ _) => hz; clear hz))
  obtain ⟨l37, _⟩ := kp
  have hmem2 := LP.mem
  have hlen2 := LP.len
  have hbd2 := LP.bounds
  have hvl : vp2.length = ps2.length := hI2.length

  (try dsimp only)
  have hB : ∀ p ∈ ([(lp, listOf vp2.toArray cp2), (s₁.heap.objs.size + 1 + 1 + 1 + 1 + 1, wO), (s₁.heap.objs.size + 1 + 1 + 1 + 1, wR), (s₁.heap.objs.size + 1 + 1 + 1, qC), (s₁.heap.objs.size + 1 + 1, qP), (s₁.heap.objs.size + 1, qS)] : List (Addr × Obj)), 37 < p.1 := gt_cons hlp2.2 (gt_cons (by omega) (gt_cons (by omega) (gt_cons (by omega) (gt_cons (by omega) (gt_cons (by omega) (gt_nil))))))
  walk1
  k_steps
  refine LCg.CompSrc.ledger (ax := lp) (its := vp2.toArray) (k := cp2) (by rfl) (by k_asm) (by k_asm) (by k_mem) (by rw [List.size_toArray, PySem.sizeLine_eq]; omega) ?_
  intro g'
  obtain ⟨k, hk⟩ : ∃ k, vp2.toArray.size = k + 1 := ⟨vp2.toArray.size - 1, by rw [List.size_toArray]; omega⟩
  rw [hk]
  refine comp_first (R := fun j z => ∃ p, ps2[j]? = some p ∧ z = CA.fmod p) (G := RestG [(lp, listOf vp2.toArray cp2), (s₁.heap.objs.size + 1 + 1 + 1 + 1 + 1, wO), (s₁.heap.objs.size + 1 + 1 + 1 + 1, wR), (s₁.heap.objs.size + 1 + 1 + 1, qC), (s₁.heap.objs.size + 1 + 1, qP), (s₁.heap.objs.size + 1, qS)]) ?hGS k ?first ?turn ?_
  (case hGS =>
    rintro n' ⟨c1, oc1, vs1, tq1, c2, oc2, vs2, tq2, rfl, _⟩
    exact .inr ⟨_, .tail _ (.tail _ (.tail _ (.tail _ (.head _)))), rfl, _, rfl⟩)
  (case first =>
    intro v I oI C oC D m₂ h tk E' hv hC hx F N off ne
    obtain ⟨p, tp, rfl, hp⟩ := ints_at hI2 hv
    have off0 := off
    (try simp only [LCg.Off3, and_true] at off)
    have hpb := hmem2 _ (mem_at hp)
    k_steps
    (k_dflt (refine' cl_go (idm_miss (by omega) (by omega) (by omega) (by omega) (apart3 (oI := oI) (oC := oC) (oD := LCg.lst []) off0 hB)) ?k1 ?k2 ?k3 ?k4 ?k5 ?k6 ?k7 ?k8 ?n1 ?n2 ?_; (case k1 => k_asm); (case k2 => k_asm); (case k3 => k_asm); (case k4 => (refine' cb_drop ?cbN ?cbS; (case cbN => k_asm); (case cbS => ((repeat (refine List.forall_mem_cons.mpr ⟨by k_mem, ?_⟩)); exact List.forall_mem_nil _)))); (case k5 => k_asm); (case k6 => first | assumption | exact rfl); (case k7 => assumption); (case k8 => assumption); (case n1 => ktr_room); (case n2 => ktr_units)))
    intro D9 u1 u2 c9 h' tk' c1 oc1 vs1 tq1 c2 oc2 vs2 tq2 F' N' d1 q1 d2 q2 L1 L2 L3 LA
    have hoff := off_turn (oc1 := oc1) (oc2 := oc2) (p1 := tab30 c1) (p2 := tab37 c2) off0 LA L2
    have hG : RestG [(lp, listOf vp2.toArray cp2), (s₁.heap.objs.size + 1 + 1 + 1 + 1 + 1, wO), (s₁.heap.objs.size + 1 + 1 + 1 + 1, wR), (s₁.heap.objs.size + 1 + 1 + 1, qC), (s₁.heap.objs.size + 1 + 1, qP), (s₁.heap.objs.size + 1, qS)] [(c1, oc1), (c2, oc2), (30, tab30 c1), (37, tab37 c2), (lp, listOf vp2.toArray cp2), (s₁.heap.objs.size + 1 + 1 + 1 + 1 + 1, wO), (s₁.heap.objs.size + 1 + 1 + 1 + 1, wR), (s₁.heap.objs.size + 1 + 1 + 1, qC), (s₁.heap.objs.size + 1 + 1, qP), (s₁.heap.objs.size + 1, qS)] := ⟨c1, oc1, vs1, tq1, c2, oc2, vs2, tq2, rfl, d1, q1, d2, q2, L1, L2, fun p hp => LA p (.tail _ (.tail _ (.tail _ hp)))⟩
    k_lt2 L1
    k_lt2 L2
    k_lt2 L3
    k_lt LA
    dsimp only
    k_steps
    (refine' elt_turn ?eF ?eN ?eS hoff hG ⟨p, hp, rfl⟩; (case eF => k_asm); (case eN => k_asm); (case eS => ((repeat (refine List.forall_mem_cons.mpr ⟨by k_mem, ?_⟩)); exact List.forall_mem_nil _))))
  (case turn =>
    rintro n' ⟨c1, oc1, vs1, tq1, c2, oc2, vs2, tq2, rfl, d1, q1, d2, q2, L1, L2, LA⟩
    intro j hj1 hj2 v I oI C oC D m₂ h tk E' ys hv hC hx F N off ne
    obtain ⟨p, tp, rfl, hp⟩ := ints_at hI2 hv
    (try simp only [LCg.Off3, and_true] at off)
    have hpb := hmem2 _ (mem_at hp)
    k_steps
    (k_dflt (refine' cl_go (idm_hit (news := [(I, oI), (C, oC), (D, LCg.lst ys), (c1, oc1), (c2, oc2), (30, tab30 c1), (37, tab37 c2), (lp, listOf vp2.toArray cp2), (s₁.heap.objs.size + 1 + 1 + 1 + 1 + 1, wO), (s₁.heap.objs.size + 1 + 1 + 1 + 1, wR), (s₁.heap.objs.size + 1 + 1 + 1, qC), (s₁.heap.objs.size + 1 + 1, qP), (s₁.heap.objs.size + 1, qS)]) (by omega) (by omega) (by omega) (by omega) ?g1 ?g2 d1 q1 ?g3 ?g4 d2 q2) ?k1 ?k2 ?k3 ?k4 ?k5 ?k6 ?k7 ?k8 ?n1 ?n2 ?_; (case g1 => k_mem); (case g2 => k_mem); (case g3 => k_mem); (case g4 => k_mem); (case k1 => k_asm); (case k2 => k_asm); (case k3 => k_asm); (case k4 => k_asm); (case k5 => k_asm); (case k6 => first | assumption | exact rfl); (case k7 => assumption); (case k8 => assumption); (case n1 => ktr_room); (case n2 => ktr_units)))
    intro D9 u1 u2 c9 h' tk' F' N' LA9
    k_lt LA9
    dsimp only
    k_steps
    (refine' elt_int ?eF ?eN ?eS ⟨p, hp, rfl⟩; (case eF => k_asm); (case eN => k_asm); (case eS => ((repeat (refine List.forall_mem_cons.mpr ⟨by k_mem, ?_⟩)); exact List.forall_mem_nil _))))
  intro n' hG ys' zs' hI' hl' hR'
  have hzs := rests_all (f := fun p => CA.fmod p) (by rw [hl', ← hk, List.size_toArray, hvl]) hR'
  subst hzs
  clear hl' hR'
  obtain ⟨c1, oc1, vs1, tq1, c2, oc2, vs2, tq2, rfl, d1, q1, d2, q2, L1, L2, LA⟩ := hG
  have hc1 := L1
  have hc2 := L2
  have LA0 := LA
  k_lt2 L1
  k_lt2 L2
  k_lt LA
  unfold LCg.FinE
  intro DR hR9 tkR FR NR oR
  simp only [LCg.Off1, and_true] at oR
  (try simp only [List.nil_append, List.cons_append] at NR)
  dsimp only
  k_steps
  (rename News _ _ _ _ => N9)
  refine with_head N9 ?_
  rintro lt rfl
  (rename _ = Data.cell (some (Value.ref DR)) => dqR)
  refine with_obj dqR ?_
  rintro qR rfl
  have hb1 : ∀ p ∈ ([(DR, LCg.lst ys'), (c1, oc1), (c2, oc2), (30, tab30 c1), (37, tab37 c2), (lp, listOf vp2.toArray cp2), (s₁.heap.objs.size + 1 + 1 + 1 + 1, qR), (s₁.heap.objs.size + 1 + 1 + 1, qC), (s₁.heap.objs.size + 1 + 1, qP)] : List (Addr × Obj)), p.1 ≠ s₁.heap.objs.size + 1 + 1 + 1 + 1 + 1 := ne_cons (by omega) (ne_cons (by omega) (ne_cons (by omega) (ne_cons (by omega) (ne_cons (by omega) (ne_cons (by omega) (ne_cons (by omega) (ne_cons (by omega) (ne_cons (by omega) (ne_nil)))))))))
  have hb2 : ∀ p ∈ ([(DR, LCg.lst ys'), (c1, oc1), (c2, oc2), (30, tab30 c1), (37, tab37 c2), (lp, listOf vp2.toArray cp2), (s₁.heap.objs.size + 1 + 1 + 1 + 1, qR), (s₁.heap.objs.size + 1 + 1 + 1, qC), (s₁.heap.objs.size + 1 + 1, qP)] : List (Addr × Obj)), p.1 ≠ lt := ne_cons (by omega) (ne_cons (by omega) (ne_cons (by omega) (ne_cons (by omega) (ne_cons (by omega) (ne_cons (by omega) (ne_cons (by omega) (ne_cons (by omega) (ne_cons (by omega) (ne_nil)))))))))
  (rename Fr _ _ _ _ => F9)
  refine' cand_for F9 ?_
  k_steps
  (k_dflt (refine' cand_iter (n := (2 * BO - 1).toNat) (news := [(s₁.heap.objs.size + 1 + 1 + 1 + 1 + 1, wO), (lt, listOf ([] : List Value).toArray 0), (DR, LCg.lst ys'), (c1, oc1), (c2, oc2), (30, tab30 c1), (37, tab37 c2), (lp, listOf vp2.toArray cp2), (s₁.heap.objs.size + 1 + 1 + 1 + 1, qR), (s₁.heap.objs.size + 1 + 1 + 1, qC), (s₁.heap.objs.size + 1 + 1, qP)]) (CandJ _ [(DR, LCg.lst ys'), (c1, oc1), (c2, oc2), (30, tab30 c1), (37, tab37 c2), (lp, listOf vp2.toArray cp2), (s₁.heap.objs.size + 1 + 1 + 1 + 1, qR), (s₁.heap.objs.size + 1 + 1 + 1, qC), (s₁.heap.objs.size + 1 + 1, qP)] (s₁.heap.objs.size + 1 + 1 + 1 + 1 + 1) lt BO SE (decide (FA ≠ 0)) (if FA = 0 then -1 else PL)) ?hh ?kF ?kN ?hr ?hs ?hn (candJ_start dO hb1 hb2 ?h3 LP.s0) ?turn ?_; (case hh => exact rfl); (case kF => k_asm); (case kN => (refine' cb_drop ?cbN ?cbS; (case cbN => k_asm); (case cbS => ((repeat (refine List.forall_mem_cons.mpr ⟨by k_mem, ?_⟩)); exact List.forall_mem_nil _)))); (case hr => k_asm)))
  (case h3 => (show (_ : Nat) < _; omega))
  (case hs => exact small_one (by omega) (by omega) (by omega) (by omega))
  (case hn => (rw [rangeSize_nat]; congr 2; omega))
  (case turn =>
    unfold Later
    intro I hI i m₁ news₁ s₂ it tO hi hJ hoff F8 N8
    obtain ⟨fl, oO, c0, vt, ct, R, rfl, rfl, hd0, f1, f2, f3, f4, f5, f6, f7⟩ := hJ
    have hmDR := f1 (DR, LCg.lst ys') (.head _)
    have hmlp := f1 (lp, listOf vp2.toArray cp2) (.tail _ (.tail _ (.tail _ (.tail _ (.tail _ (.head _))))))
    have hmqR := f1 (_, qR) (.tail _ (.tail _ (.tail _ (.tail _ (.tail _ (.tail _ (.head _)))))))
    have hmqP := f1 (_, qP) (.tail _ (.tail _ (.tail _ (.tail _ (.tail _ (.tail _ (.tail _ (.tail _ (.head _)))))))))
    obtain ⟨ONE, hONE⟩ : ∃ z, z = 1 - BO + (i : Int) := ⟨_, rfl⟩
    rw [← hONE] at f6 f7 ⊢
    have hIa : (s₁.heap.objs.size + 1 + 1 + 1 + 1 + 1 : Nat) ≠ I := hoff _ (.head _)
    have hIl : @Ne Nat lt I := hoff _ (.tail _ (.head _))
    have hneR := fun p (hp : p ∈ R) => hoff p (.tail _ (.tail _ hp))
    have hi2 : (i : Int) < 2 * BO - 1 := by omega
    have kp : @LT.lt Nat _ (s₁.heap.objs.size + 1 + 1 + 1 + 1 + 1) lt ∧ True := ⟨f4, True.intro⟩
    (repeat (rename (@LT.lt Nat _ _ _) => hz; clear hz))
    (repeat (rename (@LT.lt Addr _ _ _) => hz; clear hz))
    clear oR LA0 hB
    obtain ⟨f4', _⟩ := kp
    (try dsimp only)
    k_steps
    (k_dflt (refine LCt.ListComp_T (F₀ := by k_asm) (by with_unfolding_all rfl) (by decide) (by rfl) (by decide) (by rfl) ?_))
    k_steps
    (refine LCt.CompSrcT.range (n := ps2.length) (by rfl) (by k_asm) (by k_asm) (by assumption) (small_one (by decide) (by decide) (by omega) (by omega)) (by rw [rangeSize_nat, Int.sub_zero, Int.toNat_natCast]) (by rw [PySem.sizeLine_eq]; omega) ?_)
    intro g2
    refine comp_test (tst := tstP ps2 CA ONE) (val := fun j => 2 ^ j) trivial _ _ _ _ .nil ?tturn ?tdone
    (case tturn =>
      intro j hj1 hj2 v I2 oI2 C oC D m₂ h tk E' ys hv hC hx F N off ne
      obtain ⟨t9, rfl⟩ := hv
      rw [Int.zero_add] at hx
      have hj3 : (j : Int) < ps2.length := by omega
      have hj0 : (0 : Int) ≤ j := by omega
      have hpj := LP.at hj0 hj3
      have hml : (ps2.map (fun p => CA.fmod p)).length = ps2.length := List.length_map _
      dsimp only
      k_steps
      · (refine' elt_int ?eF ?eN ?eS ⟨tst_yes hj3 (by assumption), by rw [Int.toNat_natCast]⟩; (case eF => k_asm); (case eN => k_asm); (case eS => ((repeat (refine List.forall_mem_cons.mpr ⟨by k_mem, ?_⟩)); intro p hp; repeat (first | exact hp | refine List.Mem.tail _ ?_))))
      · (refine' elt_no ?eF ?eN ?eS (tst_no hj3 (by assumption)); (case eF => k_asm); (case eN => k_asm); (case eS => ((repeat (refine List.forall_mem_cons.mpr ⟨by k_mem, ?_⟩)); intro p hp; repeat (first | exact hp | refine List.Mem.tail _ ?_)))))
    intro ys9 hI9
    rw [List.nil_append] at hI9
    have hI9 : IntsAre ys9 (bitL ps2.length (tstP ps2 CA ONE)) := hI9
    obtain ⟨z, hz⟩ : ∃ z, (bitL ps2.length (tstP ps2 CA ONE)).sum = z := ⟨_, rfl⟩
    unfold LCg.FinE
    intro D9 h9 tk9 F9 N9 o9
    simp only [LCg.Off1] at o9
    dsimp only
    rcases cand_ways LP hz (by omega) (by omega) with ⟨hne, hz0, hsb⟩ | ⟨heq, hfa, rfl⟩ | ⟨heq, hfa, hz0, hsb, hhb⟩
    · k_steps
      all_goals try (exfalso; omega)
      (k_dflt (refine' cl_go (sb_spec) ?k1 ?k2 ?k3 ?k4 ?k5 ?k6 ?k7 ?k8 ?n1 ?n2 ?_; (case k1 => k_asm); (case k2 => k_asm); (case k3 => k_asm); (case k4 => k_asm); (case k5 => k_asm); (case k6 => first | assumption | exact rfl); (case k7 => assumption); (case k8 => assumption); (case n1 => ktr_room); (case n2 => ktr_units)))
      intro t8 h' tk' F' N'
      rw [hsb]
      dsimp only
      k_steps
      (k_dflt (refine' cand_end_skip ?eF ?eN ?m1 ?m2 ?m3 ?m4 ?hd f1 f2 f3 f4' f5 f6 f7 hIa hIl hneR hONE hne; (case eF => k_asm); (case eN => k_asm); (case m1 => k_mem); (case m2 => k_mem); (case m3 => k_mem); (case m4 => (intro p hp; repeat (first | exact hp | refine List.Mem.tail _ ?_))); (case hd => assumption)))
    · obtain rfl := f6 (by omega)
      k_steps
      all_goals try (exfalso; omega)
      (k_dflt (refine' cl_go (sb_spec) ?k1 ?k2 ?k3 ?k4 ?k5 ?k6 ?k7 ?k8 ?n1 ?n2 ?_; (case k1 => k_asm); (case k2 => k_asm); (case k3 => k_asm); (case k4 => k_asm); (case k5 => k_asm); (case k6 => first | assumption | exact rfl); (case k7 => assumption); (case k8 => assumption); (case n1 => ktr_room); (case n2 => ktr_units)))
      intro t8 h' tk' F' N'
      rw [show sbit 0 = false from rfl]
      dsimp only
      k_steps
      (k_dflt (refine' cl_go (hb_spec) ?k1 ?k2 ?k3 ?k4 ?k5 ?k6 ?k7 ?k8 ?n1 ?n2 ?_; (case k1 => k_asm); (case k2 => k_asm); (case k3 => k_asm); (case k4 => k_asm); (case k5 => k_asm); (case k6 => first | assumption | exact rfl); (case k7 => assumption); (case k8 => assumption); (case n1 => ktr_room); (case n2 => ktr_units)))
      intro t8 h' tk' F' N'
      rw [show (Builtin.Int.intBits 0 : Int) - 1 = -1 from rfl]
      dsimp only
      k_steps
      (k_dflt (refine' cand_end_add ?eF ?eN ?m1 ?m2 ?m3 ?m5 ?m4 ?hd f1 f2 f3 f4' f6 hIa hIl hneR ?e1 ?e2 ?e3 hONE heq ?hy ?hh; (case eF => k_asm); (case eN => k_asm); (case m1 => k_mem); (case m2 => k_mem); (case m3 => k_mem); (case m5 => k_mem); (case m4 => (intro p hp; repeat (first | exact hp | refine List.Mem.tail _ ?_))); (case hd => assumption); (case e1 => (refine neN ?_; omega)); (case e2 => (refine neN ?_; omega)); (case e3 => (refine neN ?_; omega)); (case hy => exact (decide_eq_false (fun h => h hfa)).symm); (case hh => exact (if_pos hfa).symm)))
    · obtain rfl := f6 (by omega)
      k_steps
      all_goals try (exfalso; omega)
      (k_dflt (refine' cl_go (sb_spec) ?k1 ?k2 ?k3 ?k4 ?k5 ?k6 ?k7 ?k8 ?n1 ?n2 ?_; (case k1 => k_asm); (case k2 => k_asm); (case k3 => k_asm); (case k4 => k_asm); (case k5 => k_asm); (case k6 => first | assumption | exact rfl); (case k7 => assumption); (case k8 => assumption); (case n1 => ktr_room); (case n2 => ktr_units)))
      intro t8 h' tk' F' N'
      rw [hsb]
      dsimp only
      k_steps
      (k_dflt (refine' cl_go (sb_spec) ?k1 ?k2 ?k3 ?k4 ?k5 ?k6 ?k7 ?k8 ?n1 ?n2 ?_; (case k1 => k_asm); (case k2 => k_asm); (case k3 => k_asm); (case k4 => k_asm); (case k5 => k_asm); (case k6 => first | assumption | exact rfl); (case k7 => assumption); (case k8 => assumption); (case n1 => ktr_room); (case n2 => ktr_units)))
      intro t8 h' tk' F' N'
      rw [hsb]
      dsimp only
      k_steps
      (k_dflt (refine' cl_go (hb_spec) ?k1 ?k2 ?k3 ?k4 ?k5 ?k6 ?k7 ?k8 ?n1 ?n2 ?_; (case k1 => k_asm); (case k2 => k_asm); (case k3 => k_asm); (case k4 => k_asm); (case k5 => k_asm); (case k6 => first | assumption | exact rfl); (case k7 => assumption); (case k8 => assumption); (case n1 => ktr_room); (case n2 => ktr_units)))
      intro t8 h' tk' F' N'
      rw [hhb]
      dsimp only
      k_steps
      (k_dflt (refine' cand_end_add ?eF ?eN ?m1 ?m2 ?m3 ?m5 ?m4 ?hd f1 f2 f3 f4' f6 hIa hIl hneR ?e1 ?e2 ?e3 hONE heq ?hy ?hh; (case eF => k_asm); (case eN => k_asm); (case m1 => k_mem); (case m2 => k_mem); (case m3 => k_mem); (case m5 => k_mem); (case m4 => (intro p hp; repeat (first | exact hp | refine List.Mem.tail _ ?_))); (case hd => assumption); (case e1 => (refine neN ?_; omega)); (case e2 => (refine neN ?_; omega)); (case e3 => (refine neN ?_; omega)); (case hy => exact (decide_eq_true hfa).symm); (case hh => exact (if_neg hfa).symm))))
  intro h4 tk4 m4 n4 F4 N4 hJ
  obtain ⟨fl, oO, c0, vt, ct, R, rfl, rfl, hd0, f1, f2, f3, f4, f5, f6, f7⟩ := hJ
  obtain ⟨e9, te1, te2, ce, rfl, he⟩ := f7 (by have := LP.s1; omega)
  have hmc1 := f1 (c1, oc1) (.tail _ (.head _))
  have hmc2 := f1 (c2, oc2) (.tail _ (.tail _ (.head _)))
  have hm30 := f1 (30, tab30 c1) (.tail _ (.tail _ (.tail _ (.head _))))
  have hm37 := f1 (37, tab37 c2) (.tail _ (.tail _ (.tail _ (.tail _ (.head _)))))
  have hmlp := f1 (lp, listOf vp2.toArray cp2) (.tail _ (.tail _ (.tail _ (.tail _ (.tail _ (.head _))))))
  have hmqC := f1 (_, qC) (.tail _ (.tail _ (.tail _ (.tail _ (.tail _ (.tail _ (.tail _ (.head _))))))))
  have hmqP := f1 (_, qP) (.tail _ (.tail _ (.tail _ (.tail _ (.tail _ (.tail _ (.tail _ (.tail _ (.head _)))))))))
  have hrun := run_facts LP
  clear f1 f6 f7
  (repeat (rename (@LT.lt Nat _ _ _) => hz; clear hz))
  (repeat (rename (@LT.lt Addr _ _ _) => hz; clear hz))
  clear oR LA0 hB
  dsimp only
  by_cases hfa : FA = 0
  · rw [decide_eq_false (fun h => h hfa), if_pos hfa] at he
    rw [if_pos hfa] at hrun
    subst hfa
    k_steps
    (k_dflt (refine' cl_go (lr_spec hmlp hI2 LP.small (by omega) (by omega) (by omega) (by omega) hm30 hmc1 d1 q1 hm37 hmc2 d2 q2) ?k1 ?k2 ?k3 ?k4 ?k5 ?k6 ?k7 ?k8 ?n1 ?n2 ?_; (case k1 => k_asm); (case k2 => k_asm); (case k3 => k_asm); (case k4 => (refine' cb_drop ?cbN ?cbS; (case cbN => k_asm); (case cbS => (intro p hp; repeat (first | exact hp | refine List.Mem.tail _ ?_))))); (case k5 => k_asm); (case k6 => first | assumption | exact rfl); (case k7 => assumption); (case k8 => assumption); (case n1 => ktr_room); (case n2 => ktr_units)))
    intro lt9 xs9 vt9 ct9 R9 h' tk' F' N' hit hsub hxs
    obtain ⟨x9, tx1, tx2, cx, rfl, hx9⟩ := one_told hit (hxs.trans hrun)
    have hm309 := hsub _ hm30
    have hm379 := hsub _ hm37
    clear hit hsub hxs
    dsimp only
    k_steps
  · rw [decide_eq_true hfa, if_neg hfa] at he
    rw [if_neg hfa] at hrun
    k_steps
    (k_dflt (refine' cl_go (lr_spec hmlp hI2 LP.small (by omega) (by omega) (by omega) (by omega) hm30 hmc1 d1 q1 hm37 hmc2 d2 q2) ?k1 ?k2 ?k3 ?k4 ?k5 ?k6 ?k7 ?k8 ?n1 ?n2 ?_; (case k1 => k_asm); (case k2 => k_asm); (case k3 => k_asm); (case k4 => (refine' cb_drop ?cbN ?cbS; (case cbN => k_asm); (case cbS => (intro p hp; repeat (first | exact hp | refine List.Mem.tail _ ?_))))); (case k5 => k_asm); (case k6 => first | assumption | exact rfl); (case k7 => assumption); (case k8 => assumption); (case n1 => ktr_room); (case n2 => ktr_units)))
    intro lt9 xs9 vt9 ct9 R9 h' tk' F' N' hit hsub hxs
    obtain ⟨x9, tx1, tx2, cx, rfl, hx9⟩ := one_told hit (hxs.trans hrun)
    have hm309 := hsub _ hm30
    have hm379 := hsub _ hm37
    have hmlp9 : (lp, listOf vp2.toArray cp2) ∈ R9 := hsub _ hmlp
    have hmqP9 : (s₁.heap.objs.size + 1 + 1, qP) ∈ R9 := hsub _ hmqP
    clear hit hsub hxs
    dsimp only
    have hp0 := LP.p0
    have hp1 := LP.p1
    k_steps
    all_goals try (dsimp only; k_steps))
theorem law_holds : PySem.Challenge.rw_rl0041_01.Holds := lawA.2 ⟨lawB⟩

end Mine
theorem PySem.Challenge.cw_rl0041_01_holds : PySem.Challenge.rw_rl0041_01.Holds := by
  exact Mine.law_holds

