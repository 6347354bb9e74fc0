import PyProof.Rows.All
import Wide.All
import OpenK.AllK
import Wide.FinOn
import PySem.Challenge.RW_pg0033_01
set_option Elab.async false
set_option rowWalk.seconds 0
section
open PySem PySem.W PyProof.Rows
namespace Mine
set_option maxRecDepth 100000
set_option maxHeartbeats 8000000
open_top hd for PySem.Challenge.rw_pg0033_01
end Mine
end
section
open PySem PySem.W PyProof.Rows
set_option maxRecDepth 100000
set_option maxHeartbeats 8000000
namespace Mine
section
variable {w : World} {mean : ExcName → Option Value} {mg mb : Str → Option Value} {news : List (Addr × Obj)}
theorem c_add (a : Int) (ta : Tok) (b : Int) (tb : Tok) : CbClaim PySem.Challenge.rw_pg0033_01.row.prog w (hd.heap_39 w.params) hd.view_39 (looseW hd.view_39 []) mean mg mb 21 news [] (True) [.int a ta, .int b tb] (fun t => .int (a + b) t) := by
  k_with_none
  w_top off
  k_fill
  dsimp only [CbClaim, CbLists, CbRet]
  intros
  rename_i hret
  
  w_strict (
    refine wpAny_call ?_
    (first | k_dflt cell_enter | fail "no enter")
    k_steps
    all_goals cb_end hret)
theorem c_and (a : Int) (ta : Tok) (b : Int) (tb : Tok) : CbClaim PySem.Challenge.rw_pg0033_01.row.prog w (hd.heap_39 w.params) hd.view_39 (looseW hd.view_39 []) mean mg mb 28 news [] (True) [.int a ta, .int b tb] (fun t => .int (Builtin.bitAnd a b) t) := by
  k_with_none
  w_top off
  k_fill
  dsimp only [CbClaim, CbLists, CbRet]
  intros
  rename_i hret
  
  w_strict (
    refine wpAny_call ?_
    (first | k_dflt cell_enter | fail "no enter")
    k_steps
    all_goals cb_end hret)
theorem c_inv (a : Int) (ta : Tok) : CbClaim PySem.Challenge.rw_pg0033_01.row.prog w (hd.heap_39 w.params) hd.view_39 (looseW hd.view_39 []) mean mg mb 35 news [] (True) [.int a ta] (fun t => .int (Builtin.bitNot a) t) := by
  k_with_none
  w_top off
  k_fill
  dsimp only [CbClaim, CbLists, CbRet]
  intros
  rename_i hret
  
  w_strict (
    refine wpAny_call ?_
    (first | k_dflt cell_enter | fail "no enter")
    k_steps
    all_goals cb_end hret)
theorem c_lshift (ta : Tok) (b : Int) (tb : Tok) : CbClaim PySem.Challenge.rw_pg0033_01.row.prog w (hd.heap_39 w.params) hd.view_39 (looseW hd.view_39 []) mean mg mb 42 news [] (0 ≤ b ∧ b ≤ 1000) [.int 1 ta, .int b tb] (fun t => .int (2 ^ b.toNat) t) := by
  k_with_none
  w_top off
  k_fill
  dsimp only [CbClaim, CbLists, CbRet]
  intros
  rename_i hret
  
  w_strict (
    refine wpAny_call ?_
    (first | k_dflt cell_enter | fail "no enter")
    k_steps
    all_goals cb_end hret)
theorem c_or (a : Int) (ta : Tok) (b : Int) (tb : Tok) : CbClaim PySem.Challenge.rw_pg0033_01.row.prog w (hd.heap_39 w.params) hd.view_39 (looseW hd.view_39 []) mean mg mb 49 news [] (True) [.int a ta, .int b tb] (fun t => .int (Builtin.bitOr a b) t) := by
  k_with_none
  w_top off
  k_fill
  dsimp only [CbClaim, CbLists, CbRet]
  intros
  rename_i hret
  
  w_strict (
    refine wpAny_call ?_
    (first | k_dflt cell_enter | fail "no enter")
    k_steps
    all_goals cb_end hret)
theorem c_rshift (a : Int) (ta : Tok) (tb : Tok) : CbClaim PySem.Challenge.rw_pg0033_01.row.prog w (hd.heap_39 w.params) hd.view_39 (looseW hd.view_39 []) mean mg mb 56 news [] (True) [.int a ta, .int 1 tb] (fun t => .int (a / 2) t) := by
  k_with_none
  w_top off
  k_fill
  dsimp only [CbClaim, CbLists, CbRet]
  intros
  rename_i hret
  
  w_strict (
    refine wpAny_call ?_
    (first | k_dflt cell_enter | fail "no enter")
    k_steps
    all_goals cb_end hret)
theorem c_sub (a : Int) (ta : Tok) (b : Int) (tb : Tok) : CbClaim PySem.Challenge.rw_pg0033_01.row.prog w (hd.heap_39 w.params) hd.view_39 (looseW hd.view_39 []) mean mg mb 63 news [] (True) [.int a ta, .int b tb] (fun t => .int (a - b) t) := by
  k_with_none
  w_top off
  k_fill
  dsimp only [CbClaim, CbLists, CbRet]
  intros
  rename_i hret
  
  w_strict (
    refine wpAny_call ?_
    (first | k_dflt cell_enter | fail "no enter")
    k_steps
    all_goals cb_end hret)
theorem c_xor (a : Int) (ta : Tok) (b : Int) (tb : Tok) : CbClaim PySem.Challenge.rw_pg0033_01.row.prog w (hd.heap_39 w.params) hd.view_39 (looseW hd.view_39 []) mean mg mb 70 news [] (True) [.int a ta, .int b tb] (fun t => .int (Builtin.bitXor a b) t) := by
  k_with_none
  w_top off
  k_fill
  dsimp only [CbClaim, CbLists, CbRet]
  intros
  rename_i hret
  
  w_strict (
    refine wpAny_call ?_
    (first | k_dflt cell_enter | fail "no enter")
    k_steps
    all_goals cb_end hret)
theorem c_cut (a : Int) (ta : Tok) : CbClaim PySem.Challenge.rw_pg0033_01.row.prog w (hd.heap_39 w.params) hd.view_39 (looseW hd.view_39 []) mean mg mb 84 news [] (True) [.int a ta] (fun t => .int (if 0 ≤ a then a % 2 ^ 60 else -(-a % 2 ^ 60)) t) := by
  k_with_none
  w_top off
  k_fill
  dsimp only [CbClaim, CbLists, CbRet]
  intros
  rename_i hret
  
  w_strict (
    refine wpAny_call ?_
    (first | k_dflt cell_enter | fail "no enter")
    k_steps
    all_goals cb_end hret)
end
end Mine
end
section
open PySem PySem.W PyProof.Rows
set_option maxRecDepth 100000
set_option maxHeartbeats 8000000
namespace Mine
abbrev FClaim (prog : Program) (w : World) (K : Frag) (p : Program) (loose : List Str) (mean : ExcName → Option Value) (mg mb : Str → Option Value) (f : Addr) (news : List (Addr × Obj)) (pre : Prop) (vs : List Value) (P : Value → List (Addr × Obj) → Prop) : Prop :=
  ∀ (dp un : Nat) (gd : Option (List Code)) (cn : Str) (cs : Scope) (a : Addr) (ccd : Value) (cl : List (Str × Addr)) (outer : List Env) (A₀ : Around) (base h₀ : Heap) (L : Addr) (m : Str → Option Value) (s : Shared) (Q E : Value → Shared → Prop),
    Below A₀ base outer h₀ → Fr h₀ L s.heap m → K.In h₀ → News h₀ L s.heap news → Top p loose mean mg mb h₀ → cs.kind = .function → pre → dp + 1 < recursionLimit → un + 8 < cLine →
    (∀ (v : Value) (new : List (Addr × Obj)) (h' : Heap) (tk' : Nat), P v new → Fr h₀ L h' m → News h₀ L h' (new ++ news) → Q v { s with heap := h', toks := tk' }) →
      wpAny (model prog w) (ktrTop dp un gd cn cs L a ccd cl outer) (call (.ref f) vs) Q E s
def fieldsOf (x : Int) : List Int → List Int
  | [] => []
  | w :: ws => x % 2 ^ w.toNat :: fieldsOf (x / 2 ^ w.toNat) ws
def restOf (x : Int) : List Int → Int
  | [] => x
  | w :: ws => restOf (x / 2 ^ w.toNat) ws
theorem fieldsOf_snoc (n : Int) : ∀ (ws : List Int) (x : Int), fieldsOf x (ws ++ [n]) = fieldsOf x ws ++ [restOf x ws % 2 ^ n.toNat]
  | [], x => rfl
  | w :: ws, x => by simp [fieldsOf, restOf, fieldsOf_snoc n ws]
theorem restOf_snoc (n : Int) : ∀ (ws : List Int) (x : Int), restOf x (ws ++ [n]) = restOf x ws / 2 ^ n.toNat
  | [], x => rfl
  | w :: ws, x => by simp [restOf, restOf_snoc n ws]
theorem fieldsOf_length : ∀ (ws : List Int) (x : Int), (fieldsOf x ws).length = ws.length
  | [], x => rfl
  | w :: ws, x => by simp [fieldsOf, fieldsOf_length ws]
theorem st_fields {x kN y : Int} {pre fs : List Int} (h1 : fs.length = pre.length) (h2 : fs = fieldsOf x pre) (h3 : y = restOf x pre) :
    (fs ++ [y.fmod (2 ^ kN.toNat)]).length = (pre ++ [kN]).length ∧ fs ++ [y.fmod (2 ^ kN.toNat)] = fieldsOf x (pre ++ [kN]) ∧ y.fdiv (2 ^ kN.toNat) = restOf x (pre ++ [kN]) := by
  refine ⟨by simp [h1], ?_, ?_⟩
  · rw [fieldsOf_snoc, h2, h3, Int.fmod_eq_emod_of_nonneg _ (Int.le_of_lt (kbt_pos _))]
  · rw [restOf_snoc, h3, Int.fdiv_eq_ediv_of_nonneg _ (Int.le_of_lt (kbt_pos _))]
theorem st_fields0 {x : Int} : ([] : List Int).length = ([] : List Int).length ∧ [] = fieldsOf x [] ∧ x = restOf x [] := ⟨rfl, rfl, rfl⟩
section
variable {w : World} {mean : ExcName → Option Value} {mg mb : Str → Option Value} {news : List (Addr × Obj)}
theorem c_fields (x : Int) (tx : Tok) (wl : Addr) (us : List Value) (ws : List Int) (nn : Nat) (hI : IntsAre us ws) (hw : ∀ n ∈ ws, 1 ≤ n ∧ n ≤ 6) (hl : ws.length ≤ 8) :
    FClaim PySem.Challenge.rw_pg0033_01.row.prog w (hd.heap_39 w.params) hd.view_39 (looseW hd.view_39 []) mean mg mb 91 ((wl, W.listOf us.toArray nn) :: news) True [.int x tx, .ref wl]
      (fun v new => ∃ r vs k, v = .ref r ∧ new = [(r, W.listOf (List.toArray vs) k)] ∧ IntsAre vs (fieldsOf x ws)) := by
  k_with_none
  w_top off
  k_fill
  dsimp only [FClaim]
  intros
  rename_i hret
  k_with "pyIter ref" => ((k_state (fun pre x' fields => fields.length = pre.length ∧ fields = fieldsOf x pre ∧ x' = restOf x pre) "x" "fields") <;> (try (have hW := hw _ kMem)))
  k_with "state" => first | exact st_fields0 | exact st_fields (by assumption) (by assumption) (by assumption)
  w_strict (
    refine wpAny_call ?_
    (first | k_dflt cell_enter | fail "no enter")
    k_steps
    all_goals (refine hret _ [_] _ _ ⟨_, _, _, rfl, rfl, ?_⟩ (by assumption) (by assumption))
    all_goals (subst_vars; assumption))
end
end Mine
end
section
open PySem PySem.W PyProof.Rows
set_option maxRecDepth 100000
set_option maxHeartbeats 8000000
namespace Mine
def laidOf : List Int → List Int → Int
  | f :: fs, w :: ws => laidOf fs ws * 2 ^ w.toNat + f
  | _, _ => 0
def laidFrom (fs ws : List Int) (j : Nat) : Int := laidOf (fs.drop (ws.length - j)) (ws.drop (ws.length - j))
theorem st_laid0 {fs ws : List Int} : (0 : Int) = laidFrom fs ws ([] : List Int).length ∧ (0 : Int) ≤ 0 ∧ (0 : Int) < 2 ^ 60 := by
  refine ⟨?_, by decide, by decide⟩
  simp only [laidFrom, List.length_nil, Nat.sub_zero, List.drop_length]
  cases List.drop ws.length fs <;> rfl
theorem laidOf_bound : ∀ (fs ws : List Int), (∀ f ∈ fs, 0 ≤ f ∧ f < 64) → (∀ n ∈ ws, 1 ≤ n ∧ n ≤ 6) → 0 ≤ laidOf fs ws ∧ laidOf fs ws < 64 ^ ws.length
  | [], ws, _, _ => by
    have : (0 : Int) < 64 ^ ws.length := Int.pow_pos (by decide)
    simpa [laidOf] using this
  | f :: fs, [], _, _ => by simp [laidOf]
  | f :: fs, w :: ws, hf, hw => by
    have ih := laidOf_bound fs ws (fun g hg => hf g (List.mem_cons_of_mem _ hg)) (fun g hg => hw g (List.mem_cons_of_mem _ hg))
    have h1 := hf f (List.mem_cons_self ..)
    have h2 := hw w (List.mem_cons_self ..)
    have h3 : (2 : Int) ^ w.toNat ≤ 64 ∧ (0 : Int) < 2 ^ w.toNat := by
      have : w.toNat = 1 ∨ w.toNat = 2 ∨ w.toNat = 3 ∨ w.toNat = 4 ∨ w.toNat = 5 ∨ w.toNat = 6 := by omega
      rcases this with h | h | h | h | h | h <;> rw [h] <;> decide
    have h4 : 0 ≤ laidOf fs ws * 2 ^ w.toNat := Int.mul_nonneg ih.1 (Int.le_of_lt h3.2)
    have h5 : laidOf fs ws * 2 ^ w.toNat ≤ laidOf fs ws * 64 := Int.mul_le_mul_of_nonneg_left h3.1 ih.1
    have h6 : (64 : Int) ^ (w :: ws).length = 64 ^ ws.length * 64 := by rw [List.length_cons, Int.pow_succ]
    rw [h6]
    generalize (64 : Int) ^ ws.length = P at *
    show 0 ≤ laidOf fs ws * 2 ^ w.toNat + f ∧ laidOf fs ws * 2 ^ w.toNat + f < P * 64
    omega
theorem laidOf_lt (fs ws : List Int) (hf : ∀ f ∈ fs, 0 ≤ f ∧ f < 64) (hw : ∀ n ∈ ws, 1 ≤ n ∧ n ≤ 6) (hl : ws.length ≤ 8) : 0 ≤ laidOf fs ws ∧ laidOf fs ws < 2 ^ 60 := by
  have h := laidOf_bound fs ws hf hw
  refine ⟨h.1, Int.lt_of_lt_of_le h.2 ?_⟩
  have : ws.length = 0 ∨ ws.length = 1 ∨ ws.length = 2 ∨ ws.length = 3 ∨ ws.length = 4 ∨ ws.length = 5 ∨ ws.length = 6 ∨ ws.length = 7 ∨ ws.length = 8 := by omega
  rcases this with h | h | h | h | h | h | h | h | h <;> rw [h] <;> decide
theorem getD_w {ws : List Int} {kN : Int} {pre : List Int} (hw : ∀ n ∈ ws, 1 ≤ n ∧ n ≤ 6) (kEq : kN = (ws.length : Int) - 1 - (pre.length : Int)) (kLt : pre.length < ((ws.length : Int) - 1 - -1).toNat) :
    1 ≤ ws.getD kN.toNat 0 ∧ ws.getD kN.toNat 0 ≤ 6 := by
  have h : kN.toNat < ws.length := by omega
  rw [List.getD_eq_getElem?_getD, List.getElem?_eq_getElem h]
  exact hw _ (List.getElem_mem h)
theorem st_laid {fs ws : List Int} {kN l : Int} {pre : List Int} (hw : ∀ n ∈ ws, 1 ≤ n ∧ n ≤ 6) (hl : ws.length ≤ 8) (hlen : fs.length = ws.length) (hf : ∀ f ∈ fs, 0 ≤ f ∧ f < 64)
    (kEq : kN = (ws.length : Int) - 1 - (pre.length : Int)) (kLt : pre.length < ((ws.length : Int) - 1 - -1).toNat) (h1 : l = laidFrom fs ws pre.length) :
    l * 2 ^ (ws.getD kN.toNat 0).toNat + fs.getD kN.toNat 0 = laidFrom fs ws (pre ++ [kN]).length ∧ 0 ≤ l * 2 ^ (ws.getD kN.toNat 0).toNat + fs.getD kN.toNat 0 ∧ l * 2 ^ (ws.getD kN.toNat 0).toNat + fs.getD kN.toNat 0 < 2 ^ 60 := by
  have e : l * 2 ^ (ws.getD kN.toNat 0).toNat + fs.getD kN.toNat 0 = laidFrom fs ws (pre ++ [kN]).length := by
    have hi : kN.toNat < ws.length := by omega
    have hi' : kN.toNat < fs.length := by omega
    have a1 : ws.length - (pre ++ [kN]).length = kN.toNat := by simp only [List.length_append, List.length_cons, List.length_nil]; omega
    have a2 : ws.length - pre.length = kN.toNat + 1 := by omega
    subst h1
    unfold laidFrom
    rw [a1, a2, List.drop_eq_getElem_cons hi, List.drop_eq_getElem_cons hi']
    simp only [laidOf, List.getD_eq_getElem?_getD, List.getElem?_eq_getElem hi, List.getElem?_eq_getElem hi', Option.getD_some]
  rw [e]
  refine ⟨rfl, ?_⟩
  exact laidOf_lt _ _ (fun f h => hf f (List.mem_of_mem_drop h)) (fun f h => hw f (List.mem_of_mem_drop h)) (by rw [List.length_drop]; omega)
theorem laidFrom_all {fs ws : List Int} : laidFrom fs ws ws.length = laidOf fs ws := by simp [laidFrom]
theorem laid_fin {fs ws : List Int} {l : Int} (h : l = laidFrom fs ws (downKs ((ws.length : Int) - 1) ((ws.length : Int) - 1 - -1).toNat).length) : l = laidOf fs ws := by
  rw [downKs_length, show ((ws.length : Int) - 1 - -1).toNat = ws.length by omega, laidFrom_all] at h
  exact h
theorem laid_ret {fs ws : List Int} {l : Int} {t : Tok} (h : l = laidFrom fs ws (downKs ((ws.length : Int) - 1) ((ws.length : Int) - 1 - -1).toNat).length) : ∃ t', Value.int l t = Value.int (laidOf fs ws) t' := ⟨t, by rw [laid_fin h]⟩
section
variable {w : World} {mean : ExcName → Option Value} {mg mb : Str → Option Value} {news : List (Addr × Obj)}
theorem c_laid (fl : Addr) (fu : List Value) (fs : List Int) (fn : Nat) (wl : Addr) (us : List Value) (ws : List Int) (nn : Nat) (hF : IntsAre fu fs) (hI : IntsAre us ws) (hw : ∀ n ∈ ws, 1 ≤ n ∧ n ≤ 6) (hl : ws.length ≤ 8)
    (hlen : fs.length = ws.length) (hf : ∀ f ∈ fs, 0 ≤ f ∧ f < 64) :
    FClaim PySem.Challenge.rw_pg0033_01.row.prog w (hd.heap_39 w.params) hd.view_39 (looseW hd.view_39 []) mean mg mb 98 ((fl, W.listOf fu.toArray fn) :: (wl, W.listOf us.toArray nn) :: news) True [.ref fl, .ref wl]
      (fun v new => new = [] ∧ ∃ t, v = .int (laidOf fs ws) t) := by
  k_with_none
  w_top off
  k_fill
  dsimp only [FClaim]
  intros
  rename_i hret
  k_with "pyIter ref" => ((k_state (fun pre l => l = laidFrom fs ws pre.length ∧ 0 ≤ l ∧ l < 2 ^ 60) "laid") <;> (try (have hW := getD_w hw kEq kLt)))
  k_with "state" => first | exact st_laid0 | exact st_laid (by assumption) (by assumption) (by assumption) (by assumption) (by assumption) (by assumption) (by assumption)
  w_strict (
    refine wpAny_call ?_
    (first | k_dflt cell_enter | fail "no enter")
    k_steps
    all_goals (refine hret _ [] _ _ ⟨rfl, ?_⟩ (by assumption) (by assumption))
    all_goals (exact laid_ret (by assumption)))
end
end Mine
end
section
open PySem PySem.W PyProof.Rows
set_option maxRecDepth 100000
set_option maxHeartbeats 8000000
namespace Mine
def nthS : List Stmt → Nat → Stmt
  | [], _ => .Pass default
  | s :: _, 0 => s
  | _ :: r, n + 1 => nthS r n
def defBody : Stmt → List Stmt
  | .FunctionDef _ _ b _ _ _ _ _ _ _ => b
  | _ => []
def defScope : Stmt → Scope
  | .FunctionDef _ _ _ _ _ _ sc _ _ _ => sc
  | _ => default
def forBody : Stmt → List Stmt
  | .For _ _ b _ _ => b
  | _ => []
def lawS : Stmt := nthS PySem.Challenge.rw_pg0033_01.row.prog.main.body 16
def turnB : List Stmt := forBody (nthS (defBody lawS) 14)
theorem cb_use {prog : Program} {w : World} {K : Frag} {p : Program} {loose : List Str} {mean : ExcName → Option Value} {mg mb : Str → Option Value} {f : Addr} {news : List (Addr × Obj)} {pre : Prop} {vs : List Value} {R : Tok → Value}
    (C : CbClaim prog w K p loose mean mg mb f news [] pre vs R)
    {dp un : Nat} {gd : Option (List Code)} {cn : Str} {cs : Scope} {a : Addr} {ccd : Value} {cl : List (Str × Addr)} {outer : List Env} {A₀ : Around} {base h₀ : Heap} {L : Addr} {m : Str → Option Value} {s : Shared} {Q E : Value → Shared → Prop}
    (B : Below A₀ base outer h₀) (F : Fr h₀ L s.heap m) (X : K.In h₀) (N : News h₀ L s.heap news) (T : Top p loose mean mg mb h₀) (hk : cs.kind = .function) (hp : pre) (hd : dp + 1 < recursionLimit) (hu : un + 8 < cLine) (hR : CbRet h₀ L m news s Q R) :
    wpAny (model prog w) (ktrTop dp un gd cn cs L a ccd cl outer) (call (.ref f) vs) Q E s := C dp un gd cn cs a ccd cl outer A₀ base h₀ L m s Q E B F X N T hk hp hd hu hR
theorem f_use {prog : Program} {w : World} {K : Frag} {p : Program} {loose : List Str} {mean : ExcName → Option Value} {mg mb : Str → Option Value} {f : Addr} {news nws : List (Addr × Obj)} {pre : Prop} {vs : List Value} {P : Value → List (Addr × Obj) → Prop}
    (C : FClaim prog w K p loose mean mg mb f news pre vs P)
    {dp un : Nat} {gd : Option (List Code)} {cn : Str} {cs : Scope} {a : Addr} {ccd : Value} {cl : List (Str × Addr)} {outer : List Env} {A₀ : Around} {base h₀ : Heap} {L : Addr} {m : Str → Option Value} {s : Shared} {Q E : Value → Shared → Prop}
    (B : Below A₀ base outer h₀) (F : Fr h₀ L s.heap m) (X : K.In h₀) (N : News h₀ L s.heap nws) (T : Top p loose mean mg mb h₀) (hk : cs.kind = .function) (hp : pre) (hd : dp + 1 < recursionLimit) (hu : un + 8 < cLine)
    (h1 : ∀ q ∈ news, q ∈ nws) (h2 : ∀ q ∈ nws, q ∈ news)
    (hR : ∀ (v : Value) (new : List (Addr × Obj)) (h' : Heap) (tk' : Nat), P v new → Fr h₀ L h' m → News h₀ L h' (new ++ nws) → Q v { s with heap := h', toks := tk' }) :
    wpAny (model prog w) (ktrTop dp un gd cn cs L a ccd cl outer) (call (.ref f) vs) Q E s :=
  C dp un gd cn cs a ccd cl outer A₀ base h₀ L m s Q E B F X (fun q hq => N q (h1 q hq)) T hk hp hd hu fun v new h' tk' hP F' N' => hR v new h' tk' hP F' fun q hq => N' q ((List.mem_append.mp hq).elim (fun h => List.mem_append.mpr (.inl h)) fun h => List.mem_append.mpr (.inr (h2 q h)))
end Mine
namespace Mine
section
variable {w : World} {mean : ExcName → Option Value} {mg mb : Str → Option Value} {news : List (Addr × Obj)}
  {dp un : Nat} {gd : Option (List Code)} {cn : Str} {cs : Scope} {a : Addr} {ccd : Value} {cl : List (Str × Addr)} {outer : List Env} {A₀ : Around} {base h₀ : Heap} {L : Addr} {m : Str → Option Value} {s : Shared} {Q E : Value → Shared → Prop}
theorem use_fields {x : Int} {tx : Tok} {wl : Addr} {us : List Value} {ws : List Int} {nn : Nat} (hI : IntsAre us ws) (hw : ∀ n ∈ ws, 1 ≤ n ∧ n ≤ 6) (hl : ws.length ≤ 8)
    (B : Below A₀ base outer h₀) (F : Fr h₀ L s.heap m) (X : (hd.heap_39 w.params).In h₀) (N : News h₀ L s.heap news) (hm : (wl, W.listOf us.toArray nn) ∈ news) (T : Top hd.view_39 (looseW hd.view_39 []) mean mg mb h₀) (hk : cs.kind = .function) (hdp : dp + 1 < recursionLimit) (hun : un + 8 < cLine)
    (hR : ∀ (r : Addr) (vs : List Value) (k : Nat) (h' : Heap) (tk' : Nat), IntsAre vs (fieldsOf x ws) → Fr h₀ L h' m → News h₀ L h' ((r, W.listOf vs.toArray k) :: news) → Q (.ref r) { s with heap := h', toks := tk' }) :
    wpAny (model PySem.Challenge.rw_pg0033_01.row.prog w) (ktrTop dp un gd cn cs L a ccd cl outer) (call (.ref 91) [.int x tx, .ref wl]) Q E s :=
  f_use (c_fields (news := news) x tx wl us ws nn hI hw hl) B F X N T hk trivial hdp hun (fun q hq => (List.mem_cons.mp hq).elim (fun e => e ▸ hm) id) (fun q hq => List.mem_cons_of_mem _ hq)
    fun v new h' tk' hP F' N' => by
      obtain ⟨r, vs, k, rfl, rfl, hi⟩ := hP
      exact hR r vs k h' tk' hi F' N'
theorem use_laid {fl : Addr} {fu : List Value} {fs : List Int} {fn : Nat} {wl : Addr} {us : List Value} {ws : List Int} {nn : Nat} (hF : IntsAre fu fs) (hI : IntsAre us ws) (hw : ∀ n ∈ ws, 1 ≤ n ∧ n ≤ 6) (hl : ws.length ≤ 8)
    (hlen : fs.length = ws.length) (hf : ∀ f ∈ fs, 0 ≤ f ∧ f < 64)
    (B : Below A₀ base outer h₀) (F : Fr h₀ L s.heap m) (X : (hd.heap_39 w.params).In h₀) (N : News h₀ L s.heap news) (hfm : (fl, W.listOf fu.toArray fn) ∈ news) (hm : (wl, W.listOf us.toArray nn) ∈ news) (T : Top hd.view_39 (looseW hd.view_39 []) mean mg mb h₀) (hk : cs.kind = .function) (hdp : dp + 1 < recursionLimit) (hun : un + 8 < cLine)
    (hR : ∀ (t : Tok) (h' : Heap) (tk' : Nat), Fr h₀ L h' m → News h₀ L h' news → Q (.int (laidOf fs ws) t) { s with heap := h', toks := tk' }) :
    wpAny (model PySem.Challenge.rw_pg0033_01.row.prog w) (ktrTop dp un gd cn cs L a ccd cl outer) (call (.ref 98) [.ref fl, .ref wl]) Q E s :=
  f_use (c_laid (news := news) fl fu fs fn wl us ws nn hF hI hw hl hlen hf) B F X N T hk trivial hdp hun
    (fun q hq => (List.mem_cons.mp hq).elim (fun e => e ▸ hfm) fun hq => (List.mem_cons.mp hq).elim (fun e => e ▸ hm) id) (fun q hq => List.mem_cons_of_mem _ (List.mem_cons_of_mem _ hq))
    fun v new h' tk' hP F' N' => by
      obtain ⟨rfl, t, rfl⟩ := hP
      exact hR t h' tk' F' N'
end
end Mine
end
section
open PySem PySem.W PyProof.Rows PyProof.Rows.LCg
set_option maxRecDepth 100000
set_option maxHeartbeats 8000000
namespace Mine
section
variable {prog : Program} {w : World} {A : Around} {E : Value → Shared → Prop} {s : Shared} {h₀ : Heap} {L : Addr} {m : Str → Option Value} {env : Env}
theorem comp_own {α : Type} {elt iter target : Expr} {scope : Scope} {pos : Pos} {Q : Value → Shared → Prop} {as : List α} {ax : Addr} {its : Array Value} {kn : Nat} {news : List (Addr × Obj)}
    (g : α → Int) (Bd : α → (Str → Option Value) → Prop)
    (hh : A.handled = none) (F : Fr h₀ L s.heap m) (N : News h₀ L s.heap news) (hm : (ax, W.listOf its kn) ∈ news)
    (hfree : ∀ x ∈ scope.names, x.2 ≠ .free) (hcell : ∀ y ∈ scope.names, y.2 ≠ .cell) (hkind : scope.kind = .function) (hnames : ∀ x ∈ scope.names, x.2 = .local → scope.names.lookup x.1 = some .local)
    (hsz : its.size ≤ sizeLine) (hlen : its.size = as.length)
    (hiter : wpAny (model prog w) A (eval iter env) (fun xv s₁ => xv = .ref ax ∧ s₁ = s) E s)
    (hasg : ∀ (i : Nat) (a : α) (v : Value) (I C : Addr) (s' : Shared) (m₂ : Str → Option Value) (Q' : Unit → Shared → Prop) (E' : Value → Shared → Prop), as[i]? = some a → its[i]? = some v → s'.heap.IsListIter I ax (i + 1) → (∀ p ∈ news, s'.heap.get? p.1 = some p.2) → s'.heap.Ns C m₂ →
      (∀ (h' : Heap) (tk : Nat) (m₃ : Str → Option Value), h'.Ns C m₃ → Bd a m₃ → (∀ b o, b ≠ C → s'.heap.get? b = some o → h'.get? b = some o) → Q' () { s' with heap := h', toks := tk }) →
      wpAny (model prog w) A (letOwnedTupleGo target (.ref I) v) (fun _ s₁ => wpAny (model prog w) A (assign target (compEnv scope C env) v) Q' E' s₁) E' s')
    (helt : ∀ (a : α) (C : Addr) (s' : Shared) (m₃ : Str → Option Value) (E' : Value → Shared → Prop), a ∈ as → s'.heap.Ns C m₃ → Bd a m₃ →
      wpAny (model prog w) A (eval elt (compEnv scope C env)) (fun r s'' => ∃ t tk, r = .int (g a) t ∧ s'' = { s' with toks := tk }) E' s')
    (hQ : ∀ (D : Addr) (h' : Heap) (tk : Nat) (ys : List Value), Fr h₀ L h' m → News h₀ L h' ((D, lst ys) :: news) → IntsAre ys (as.map g) → Q (.ref D) { s with heap := h', toks := tk })
    (hs : ∀ x, foldedSetIterable iter env x = pure x := by intro _; rfl) :
    wpAny (model prog w) A (eval (.ListComp elt [⟨target, iter, [], 0⟩] scope pos) env) Q E s := by
  have hl : s.heap.IsList ax its := ⟨_, (N _ hm).1, rfl, kn, rfl⟩
  have hax : ax < s.heap.objs.size := Heap.lt_size (N _ hm).1
  refine wpAny_ListComp hfree hkind hnames (wpAny_mono hiter (fun xv s₁ h₁ => ?_) fun _ _ e => e) hs
  obtain ⟨rfl, rfl⟩ := h₁
  refine wpAny_pyIter_list hl (wpAny_newObj_type (hd := by size_fits) (wpAny_newFunctionEnv hcell (by intro y hy; simp at hy) (fun h₁ hns₁ hsb₁ => ?_) hkind))
  dsimp only at hns₁ hsb₁ ⊢
  generalize hH1 : s₁.heap.push { cls := .type "list_iterator", data := .fields #[.ref ax, .int 0 0] } = H1 at hns₁ hsb₁ ⊢
  have hD : H1.objs.size = s₁.heap.objs.size + 1 := by rw [← hH1, Heap.size_push]
  generalize hH2 : H1.push { cls := .type "list", dict := none, data := .seq ([] : List Value).toArray } = H2 at hns₁ hsb₁ ⊢
  have hC : H2.objs.size = s₁.heap.objs.size + 2 := by rw [← hH2, Heap.size_push, hD]
  generalize eI : s₁.heap.objs.size = I at *
  generalize eD : H1.objs.size = D at *
  generalize eC : H2.objs.size = C at *
  have hDI : D ≠ I := by omega
  have hDC : D ≠ C := by omega
  have hIC : I ≠ C := by omega
  have lt : ∀ b o, s₁.heap.get? b = some o → @LT.lt Nat _ b I := fun b o e => eI ▸ Heap.lt_size e
  have neC : ∀ b : Nat, b < I → b ≠ C := fun b hb => by omega
  have neD : ∀ b : Nat, b < I → b ≠ D := fun b hb => by omega
  have neI : ∀ b : Nat, b < I → b ≠ I := fun b hb => by omega
  have old : ∀ b o, s₁.heap.get? b = some o → h₁.get? b = some o := fun b o e => by
    have hb := lt b o e
    exact hsb₁.extBut b o (neC b hb) (Heap.get?_push_of_some _ (hH2 ▸ Heap.get?_push_of_some _ (hH1 ▸ Heap.get?_push_of_some _ e)))
  have hit : h₁.IsListIter I ax 0 :=
    ⟨_, hsb₁.extBut _ _ hIC (Heap.get?_push_of_some _ (hH2 ▸ Heap.get?_push_of_some _ (hH1 ▸ eI ▸ Heap.get?_push_size _ rfl))), rfl, rfl⟩
  have hacc : h₁.get? D = some (lst []) := hsb₁.extBut _ _ hDC (Heap.get?_push_of_some _ (hH2 ▸ eD ▸ Heap.get?_push_size _ rfl))
  have fresh : ∀ a : Nat, I ≤ a → h₀.get? a = none := fun a ha => by
    cases e : h₀.get? a with
    | none => rfl
    | some o' => have := lt a o' (F.keep a o' e); exact absurd this (Nat.not_lt.mpr ha)
  have hLlt : @LT.lt Nat _ L I := eI ▸ F.ns.lt
  have hLI : L ≠ I := neI L hLlt
  have hLD : L ≠ D := neD L hLlt
  have hLC : L ≠ C := neC L hLlt
  have nlt : ∀ p ∈ news, @LT.lt Nat _ p.1 I := fun p hp => lt _ _ (N p hp).1
  have hn₀ : ∀ b o, h₀.get? b = some o → @LT.lt Nat _ b I := fun b o e => lt b o (F.keep b o e)
  have F₁ : Fr h₀ L h₁ m := F.keeps old
  have N₁ : News h₀ L h₁ ((D, lst []) :: news) := fun p hp => by
    rcases List.mem_cons.mp hp with rfl | hp
    · exact ⟨hacc, Ne.symm hLD, fresh _ (by omega)⟩
    · exact ⟨old _ _ (N p hp).1, (N p hp).2⟩
  have loop : ∀ s₂ : Shared, s₂ = { s₁ with heap := h₁, toks := s₁.toks + ([] : List (Str × Value)).length } →
      codeAny (model prog w) A (.compLoop (.ListComp elt [⟨target, iter, [], 0⟩] scope pos) 0 (.ref I) (.ref D) (compEnv scope C env))
        (fun r s' => ∃ m, s'.heap.Ns C m ∧ ∀ h', Heap.SameBut C s'.heap h' →
          match r with | .ok _ => Q (.ref D) { s' with heap := h' } | .error x => wpAny (model prog w) A (passOn "comprehension.variables-let-go" x (compEnv scope C env)) Q E { s' with heap := h' }) s₂ := by
    rintro s₂ rfl
    refine kcp_loop (fun k s' => ∃ h' tk i ys m', s' = { s₁ with heap := h', toks := tk } ∧ i ≤ as.length ∧ k = as.length + 1 - i ∧ h'.IsListIter I ax i ∧ Fr h₀ L h' m ∧ h'.Ns C m' ∧ News h₀ L h' ((D, lst ys) :: news) ∧ IntsAre ys ((as.take i).map g))
      ?_ (as.length + 1) ⟨h₁, _, 0, [], _, rfl, Nat.zero_le _, rfl, hit, F₁, hns₁, N₁, by simpa using IntsAre.nil⟩
    rintro k s' ⟨h', tk, i, ys, m', rfl, hi, rfl, hit', F', hn', N', hI'⟩
    have hl' : h'.IsList ax its := ⟨_, (N' _ (List.mem_cons_of_mem _ hm)).1, rfl, kn, rfl⟩
    by_cases hlt : i < as.length
    · have hi' : i < its.size := by omega
      refine wpAny_pyNext_list_item hit' hl' (x := its[i]) (by simp [hi']) fun h₂ hit₂ hs₂ => ?_
      have up₂ : ∀ b o, b ≠ I → h'.get? b = some o → h₂.get? b = some o := fun b o hb e => hs₂.extBut b o hb e
      have N₂ : News h₀ L h₂ ((D, lst ys) :: news) := fun p hp => by
        refine ⟨up₂ _ _ ?_ (N' p hp).1, (N' p hp).2⟩
        rcases List.mem_cons.mp hp with rfl | hp
        · exact hDI
        · exact Nat.ne_of_lt (nlt p hp)
      have F₂ : Fr h₀ L h₂ m := ⟨F'.ns.at' fun o e => up₂ _ o hLI e, fun b o e => up₂ b o (Nat.ne_of_lt (hn₀ b o e)) (F'.keep b o e), F'.above⟩
      have hn₂ : h₂.Ns C m' := hn'.at' fun o e => up₂ _ o (Ne.symm hIC) e
      refine hasg i as[i] its[i] I C _ _ _ _ (by simp [hlt]) (by simp [hi']) hit₂ (fun p hp => (N₂ p (List.mem_cons_of_mem _ hp)).1) hn₂ fun h₃ tk₃ m₃ hn₃ hB hk₃ => ?_
      have N₃ : News h₀ L h₃ ((D, lst ys) :: news) := fun p hp => by
        refine ⟨hk₃ _ _ ?_ (N₂ p hp).1, (N₂ p hp).2⟩
        rcases List.mem_cons.mp hp with rfl | hp
        · exact hDC
        · exact neC _ (nlt p hp)
      have F₃ : Fr h₀ L h₃ m := ⟨F₂.ns.at' fun o e => hk₃ _ o hLC e, fun b o e => hk₃ b o (neC b (hn₀ b o e)) (F₂.keep b o e), F₂.above⟩
      have hit₃ : h₃.IsListIter I ax (i + 1) := hit₂.at fun o e => hk₃ _ o hIC e
      refine wpAny_mono (helt as[i] C _ m₃ _ (List.getElem_mem hlt) hn₃ hB) (fun y s₄ h₄ => ?_) fun _ _ e => e
      obtain ⟨t, tk₄, rfl, rfl⟩ := h₄
      have hyl : ys.length = i := by
        have := hI'.length
        simp only [List.length_map, List.length_take] at this
        omega
      refine append_at (hsz := by show ys.toArray.size ≤ sizeLine; rw [List.size_toArray, hyl]; omega) (N₃ _ (List.mem_cons_self ..)).1 fun h₅ hs₅ hD₅ => ?_
      refine ⟨as.length + 1 - (i + 1), by omega, h₅, _, i + 1, ys ++ [Value.int (g as[i]) t], m₃, rfl, hlt, rfl, hit₃.extBut hs₅.extBut (Ne.symm hDI), F₃.change hs₅ (Ne.symm hLD) (fresh _ (by omega)), hn₃.sameBut hs₅ (Ne.symm hDC), fun p hp => ?_, ?_⟩
      · rcases List.mem_cons.mp hp with rfl | hp
        · exact ⟨hD₅.trans (congrArg some (lst_snoc ys _)), (N₃ _ (List.mem_cons_self ..)).2⟩
        · exact ⟨hs₅.extBut _ _ (neD _ (nlt p hp)) (N₃ p (List.mem_cons_of_mem _ hp)).1, (N₃ p (List.mem_cons_of_mem _ hp)).2⟩
      · have e : as.take (i + 1) = as.take i ++ [as[i]] := by rw [List.take_add_one, List.getElem?_eq_getElem hlt]; rfl
        rw [e, List.map_append]
        exact hI'.append (.cons _ _ .nil)
    · have hin : i = as.length := by omega
      subst hin
      rw [List.take_length] at hI'
      refine wpAny_pyNext_list_end hh hit' hl' (Array.getElem?_eq_none (Nat.le_of_eq hlen)) fun h₂ hs₂ => ?_
      have hn₂ : h₂.Ns C m' := hn'.at' fun o e => hs₂ _ o (Ne.symm hIC) e
      refine ⟨m', hn₂, fun h₃ hs₃ => hQ D h₃ tk ys ?_ ?_ hI'⟩
      · have F₂ : Fr h₀ L h₂ m := ⟨F'.ns.at' fun o e => hs₂ _ o hLI e, fun b o e => hs₂ b o (Nat.ne_of_lt (hn₀ b o e)) (F'.keep b o e), F'.above⟩
        exact F₂.change hs₃ (Ne.symm hLC) (fresh _ (by omega))
      · intro p hp
        have z := N' p hp
        rcases List.mem_cons.mp hp with rfl | hp
        · exact ⟨hs₃.extBut _ _ hDC (hs₂ _ _ hDI z.1), z.2⟩
        · exact ⟨hs₃.extBut _ _ (neC _ (nlt p hp)) (hs₂ _ _ (neI _ (nlt p hp)) z.1), z.2⟩
  exact codeAny_compStart_list (loop _ rfl) (wpAny_pyIter_listiter hit (loop _ rfl))
end
end Mine
end
section
open PySem PySem.W PyProof.Rows PyProof.Rows.LCg
set_option maxRecDepth 100000
set_option maxHeartbeats 8000000
namespace Mine
section
variable {prog : Program} {w : World} {A : Around} {E : Value → Shared → Prop} {s : Shared} {h₀ : Heap} {L : Addr} {m : Str → Option Value} {env : Env}
theorem nmC {scope : Scope} {C : Addr} {x : Str} {px : Pos} {v : Value} {m₃ : Str → Option Value} {Q : Value → Shared → Prop} (hk : scope.kind = .function) (hx : scope.names.lookup x = some .local) (hn : s.heap.Ns C m₃) (hv : m₃ x = some v) (hd : (x == ("__debug__" : Str)) = false) (h : Q v s) :
    wpAny (model prog w) A (eval (.Name x px) (compEnv scope C env)) Q E s := wpAny_Name (wpAny_loadName_local hk hx hn hv h) hd
theorem comp_pow {iter : Expr} {x : Str} {k : Nat} {p1 p2 p3 px : Pos} {scope : Scope} {pos : Pos} {Q : Value → Shared → Prop} {ws : List Int} {us : List Value} {ax : Addr} {kn : Nat} {news : List (Addr × Obj)}
    (hI : IntsAre us ws) (hw : ∀ n ∈ ws, 1 ≤ n ∧ n ≤ 6) (hl8 : ws.length ≤ 8)
    (hh : A.handled = none) (F : Fr h₀ L s.heap m) (N : News h₀ L s.heap news) (hm : (ax, W.listOf us.toArray kn) ∈ news)
    (hiter : wpAny (model prog w) A (eval iter env) (fun xv s₁ => xv = .ref ax ∧ s₁ = s) E s)
    (hQ : ∀ (D : Addr) (h' : Heap) (tk : Nat) (ys : List Value), Fr h₀ L h' m → News h₀ L h' ((D, W.listOf ys.toArray ys.length) :: news) → IntsAre ys (ws.map fun n => 2 ^ n.toNat) → Q (.ref D) { s with heap := h', toks := tk })
    (hfree : (scope.names.all fun x => x.2 != .free && x.2 != .cell) = true) (hkind : scope.kind = .function) (hnames : (scope.names.all fun x => scope.names.lookup x.1 == some .local) = true)
    (hx : scope.names.lookup x = some .local) (hd : (x == ("__debug__" : Str)) = false)
    (hs : ∀ x, foldedSetIterable iter env x = pure x) :
    wpAny (model prog w) A (eval (.ListComp (.BinOp (.Constant (.int 2) k p1) .Pow (.Name x p2) p3) [⟨.Name x px, iter, [], 0⟩] scope pos) env) Q E s := by
  refine comp_own (as := ws) (fun n => 2 ^ n.toNat) (fun a m' => ∃ t, m' x = some (.int a t)) hh F N hm (fun y hy => ?_) (fun y hy => ?_) hkind (fun y hy _ => by simpa using List.all_eq_true.mp hnames y hy)
    (by rw [List.size_toArray, hI.length, sizeLine_eq]; omega) (by rw [List.size_toArray, hI.length]) hiter ?_ ?_ hQ hs
  · have := List.all_eq_true.mp hfree y hy
    simp at this; exact this.1
  · have := List.all_eq_true.mp hfree y hy
    simp at this; exact this.2
  · intro i a v I C s' m₂ Q' E' ha hv hit hk hn hq
    obtain ⟨t, e⟩ := hI.get i a ha
    have e2 : v = .int a t := by
      have : us[i]? = some v := by simpa using hv
      rw [e] at this; exact (Option.some.inj this).symm
    subst e2
    refine wpAny_of_eq (rfl : letOwnedTupleGo (.Name x px) (.ref I) (.int a t) = pure ()) ?_
    refine wpAny_assign_Name (wpAny_storeName_local (env := compEnv scope C env) hx hn (fun h₂ hn₂ hs₂ => ?_) (by simp [compEnv, hkind]))
    exact hq h₂ _ _ hn₂ ⟨t, by simp⟩ fun b o hb e => hs₂.extBut b o hb e
  · intro a C s' m₃ E' ha hn hB
    obtain ⟨t, ht⟩ := hB
    have hwa := hw a ha
    refine wpAny_BinOp (wpAny_Constant_int (nmC hkind hx hn ht hd (pow_int_small (by omega) (by omega) (by decide) ?_)))
    exact ⟨_, _, rfl, rfl⟩
theorem comp_trip {elt iter : Expr} {x y z : Str} {px py pz pt : Pos} {kt : Nat} {scope : Scope} {pos : Pos} {Q : Value → Shared → Prop} {trip : List (Int × Int × Int)} {its : Array Value} {ax : Addr} {kn : Nat} {news : List (Addr × Obj)}
    (g : Int × Int × Int → Int)
    (hT : ∀ (i : Nat) (a : Int × Int × Int), trip[i]? = some a → ∃ (t : Addr) (ot : Obj) (nt : Nat) (tu tv tk : Tok), its[i]? = some (Value.ref t) ∧ (t, ot) ∈ news ∧ ot.cls = .type "tuple" ∧ ot.data = .seq #[.int a.1 tu, .int a.2.1 tv, .int a.2.2 tk] nt) (hlen : its.size = trip.length) (hl8 : trip.length ≤ 8)
    (hh : A.handled = none) (F : Fr h₀ L s.heap m) (N : News h₀ L s.heap news) (hm : (ax, W.listOf its kn) ∈ news)
    (hiter : wpAny (model prog w) A (eval iter env) (fun xv s₁ => xv = .ref ax ∧ s₁ = s) E s)
    (hQ : ∀ (D : Addr) (h' : Heap) (tk : Nat) (ys : List Value), Fr h₀ L h' m → News h₀ L h' ((D, W.listOf ys.toArray ys.length) :: news) → IntsAre ys (trip.map g) → Q (.ref D) { s with heap := h', toks := tk })
    (hfree : (scope.names.all fun x => x.2 != .free && x.2 != .cell) = true) (hkind : scope.kind = .function) (hnames : (scope.names.all fun x => scope.names.lookup x.1 == some .local) = true)
    (hx : scope.names.lookup x = some .local) (hy : scope.names.lookup y = some .local) (hz : scope.names.lookup z = some .local) (hxy : x ≠ y) (hxz : x ≠ z) (hyz : y ≠ z)
    (hs : ∀ x, foldedSetIterable iter env x = pure x)
    (helt : ∀ (a : Int × Int × Int) (C : Addr) (s' : Shared) (m₃ : Str → Option Value) (E' : Value → Shared → Prop) (tu tv tk : Tok), a ∈ trip → s'.heap.Ns C m₃ → m₃ x = some (.int a.1 tu) → m₃ y = some (.int a.2.1 tv) → m₃ z = some (.int a.2.2 tk) →
      wpAny (model prog w) A (eval elt (compEnv scope C env)) (fun r s'' => ∃ t tk, r = .int (g a) t ∧ s'' = { s' with toks := tk }) E' s') :
    wpAny (model prog w) A (eval (.ListComp elt [⟨.Tuple [.Name x px, .Name y py, .Name z pz] kt pt, iter, [], 0⟩] scope pos) env) Q E s := by
  refine comp_own (as := trip) g (fun a m' => ∃ tu tv tk, m' x = some (.int a.1 tu) ∧ m' y = some (.int a.2.1 tv) ∧ m' z = some (.int a.2.2 tk)) hh F N hm (fun y hy => ?_) (fun y hy => ?_) hkind (fun y hy _ => by simpa using List.all_eq_true.mp hnames y hy)
    (by rw [hlen, sizeLine_eq]; omega) hlen hiter ?_ ?_ hQ hs
  · have := List.all_eq_true.mp hfree y hy
    simp at this; exact this.1
  · have := List.all_eq_true.mp hfree y hy
    simp at this; exact this.2
  · intro i a v I C s' m₂ Q' E' ha hv hit hk hn hq
    obtain ⟨t, ot, nt, tu, tv, tk, e, hmt, hct, hdt⟩ := hT i a ha
    have e2 : v = .ref t := by rw [e] at hv; exact (Option.some.inj hv).symm
    subst e2
    have ht : IsTup s'.heap t #[.int a.1 tu, .int a.2.1 tv, .int a.2.2 tk] := ⟨ot, hk _ hmt, hct, nt, hdt⟩
    refine wpAny_letOwnedTupleGo_listiter hit ?_
    refine assign_Tuple_tuple hh ht rfl rfl fun h₅ he => ?_
    have he' : ∀ b o, s'.heap.get? b = some o → h₅.get? b = some o := fun b o e => he b o (Nat.ne_of_lt (Heap.lt_size e)) e
    have hp : ((compEnv scope C env).scope.kind == .class || ((compEnv scope C env).scope.kind == .module && (compEnv scope C env).locals != (compEnv scope C env).globals)) = false := by simp [compEnv, hkind]
    refine assignInOrder_cons (wpAny_assign_Name (wpAny_storeName_local (env := compEnv scope C env) hx (hn.at' fun o e => he' _ o e) (fun h₆ hn₆ hs₆ => ?_) hp))
    refine assignInOrder_cons (wpAny_assign_Name (wpAny_storeName_local (env := compEnv scope C env) hy hn₆ (fun h₇ hn₇ hs₇ => ?_) hp))
    refine assignInOrder_cons (wpAny_assign_Name (wpAny_storeName_local (env := compEnv scope C env) hz hn₇ (fun h₈ hn₈ hs₈ => ?_) hp))
    refine assignInOrder_nil ?_
    exact hq h₈ _ _ hn₈ ⟨tu, tv, tk, by simp [hxy, hxz], by simp [hyz], by simp⟩ fun b o hb e => hs₈.extBut b o hb (hs₇.extBut b o hb (hs₆.extBut b o hb (he' b o e)))
  · intro a C s' m₃ E' ha hn hB
    obtain ⟨tu, tv, tk, h1, h2, h3⟩ := hB
    exact helt a C s' m₃ E' tu tv tk ha hn h1 h2 h3
end
section
variable {prog : Program} {w : World} {A : Around} {E : Value → Shared → Prop} {s : Shared} {env : Env} {scope : Scope} {C : Addr} {x y z : Str} {p1 p2 p3 p4 p5 p6 p7 p8 : Pos} {k k' : Nat} {a : Int × Int × Int} {tu tv tk : Tok} {m₃ : Str → Option Value}
theorem elt_add (hk : scope.kind = .function) (hx : scope.names.lookup x = some .local) (hy : scope.names.lookup y = some .local) (hz : scope.names.lookup z = some .local)
    (dx : (x == ("__debug__" : Str)) = false) (dy : (y == ("__debug__" : Str)) = false) (dz : (z == ("__debug__" : Str)) = false) (h0 : 0 < a.2.2)
    (hn : s.heap.Ns C m₃) (h1 : m₃ x = some (.int a.1 tu)) (h2 : m₃ y = some (.int a.2.1 tv)) (h3 : m₃ z = some (.int a.2.2 tk)) :
    wpAny (model prog w) A (eval (.BinOp (.BinOp (.Name x p1) .Add (.Name y p2) p3) .Mod (.Name z p4) p5) (compEnv scope C env)) (fun r s'' => ∃ t tk, r = .int ((a.1 + a.2.1) % a.2.2) t ∧ s'' = { s with toks := tk }) E s := by
  refine wpAny_BinOp (wpAny_BinOp (nmC hk hx hn h1 dx (nmC hk hy hn h2 dy (PyProof.Rows.add_int (nmC hk hz hn h3 dz (PyProof.Rows.mod_int' (by omega) ?_))))))
  exact ⟨_, _, by rw [Int.fmod_eq_emod_of_nonneg _ (Int.le_of_lt h0)], rfl⟩
theorem elt_sub (hk : scope.kind = .function) (hx : scope.names.lookup x = some .local) (hy : scope.names.lookup y = some .local) (hz : scope.names.lookup z = some .local)
    (dx : (x == ("__debug__" : Str)) = false) (dy : (y == ("__debug__" : Str)) = false) (dz : (z == ("__debug__" : Str)) = false) (h0 : 0 < a.2.2)
    (hn : s.heap.Ns C m₃) (h1 : m₃ x = some (.int a.1 tu)) (h2 : m₃ y = some (.int a.2.1 tv)) (h3 : m₃ z = some (.int a.2.2 tk)) :
    wpAny (model prog w) A (eval (.BinOp (.BinOp (.Name x p1) .Sub (.Name y p2) p3) .Mod (.Name z p4) p5) (compEnv scope C env)) (fun r s'' => ∃ t tk, r = .int ((a.1 - a.2.1) % a.2.2) t ∧ s'' = { s with toks := tk }) E s := by
  refine wpAny_BinOp (wpAny_BinOp (nmC hk hx hn h1 dx (nmC hk hy hn h2 dy (PyProof.Rows.sub_int (nmC hk hz hn h3 dz (PyProof.Rows.mod_int' (by omega) ?_))))))
  exact ⟨_, _, by rw [Int.fmod_eq_emod_of_nonneg _ (Int.le_of_lt h0)], rfl⟩
theorem elt_mean (hk : scope.kind = .function) (hx : scope.names.lookup x = some .local) (hy : scope.names.lookup y = some .local)
    (dx : (x == ("__debug__" : Str)) = false) (dy : (y == ("__debug__" : Str)) = false)
    (hn : s.heap.Ns C m₃) (h1 : m₃ x = some (.int a.1 tu)) (h2 : m₃ y = some (.int a.2.1 tv)) :
    wpAny (model prog w) A (eval (.BinOp (.BinOp (.Name x p1) .Add (.Name y p2) p3) .FloorDiv (.Constant (.int 2) k p4) p5) (compEnv scope C env)) (fun r s'' => ∃ t tk, r = .int ((a.1 + a.2.1) / 2) t ∧ s'' = { s with toks := tk }) E s := by
  refine wpAny_BinOp (wpAny_BinOp (nmC hk hx hn h1 dx (nmC hk hy hn h2 dy (PyProof.Rows.add_int (wpAny_Constant_int (PyProof.Rows.floordiv_int (by decide) ?_ (Or.inl (PyProof.noPylong_small (by decide)))))))))
  exact ⟨_, _, by rw [Int.fdiv_eq_ediv_of_nonneg _ (by decide)], rfl⟩
theorem elt_less (hk : scope.kind = .function) (hx : scope.names.lookup x = some .local) (hy : scope.names.lookup y = some .local) (hz : scope.names.lookup z = some .local)
    (dx : (x == ("__debug__" : Str)) = false) (dy : (y == ("__debug__" : Str)) = false) (dz : (z == ("__debug__" : Str)) = false)
    (hn : s.heap.Ns C m₃) (h1 : m₃ x = some (.int a.1 tu)) (h2 : m₃ y = some (.int a.2.1 tv)) (h3 : m₃ z = some (.int a.2.2 tk)) :
    wpAny (model prog w) A (eval (.IfExp (.Compare (.Name x p1) [.Lt] [.Name y p2] p3) (.BinOp (.Name z p4) .FloorDiv (.Constant (.int 2) k p5) p6) (.Constant (.int 0) k' p7) p8) (compEnv scope C env))
      (fun r s'' => ∃ t tk, r = .int (if a.1 < a.2.1 then a.2.2 / 2 else 0) t ∧ s'' = { s with toks := tk }) E s := by
  refine IfExp_ (wpAny_isTrue_Compare1 (nmC hk hx hn h1 dx (nmC hk hy hn h2 dy (PyProof.Rows.lt_int (wpAny_truthy_bool ?_)))))
  by_cases h : a.1 < a.2.1
  · simp only [h, decide_true, if_true]
    refine wpAny_BinOp (nmC hk hz hn h3 dz (wpAny_Constant_int (PyProof.Rows.floordiv_int (by decide) ?_ (Or.inl (PyProof.noPylong_small (by decide))))))
    exact ⟨_, _, by rw [Int.fdiv_eq_ediv_of_nonneg _ (by decide)], rfl⟩
  · simp only [h, decide_false, if_false, Bool.false_eq_true]
    exact wpAny_Constant_int ⟨_, _, rfl, rfl⟩
end
end Mine
end
section
open PySem PySem.W PyProof.Rows PyProof.Rows.LCg
set_option maxRecDepth 100000
set_option maxHeartbeats 8000000
namespace Mine
theorem typeCall_zip_3 (a b c : Value) : checkTypeCall "zip" ⟨[a, b, c], []⟩ = pure () := by kernel_rfl
theorem newCall_zip_3 (a b c : Value) : checkBuiltinCall "zip.__new__" ⟨[.type "zip", a, b, c], []⟩ = pure () := by kernel_rfl
theorem args_object_init_4 (a b c d : Value) : argsOk "object.__init__" ⟨[a, b, c, d], []⟩ := by
  unfold argsOk; rw [signature?_of (id := "object.__init__") (n := ['_', '_', 't', 'i', 'n', 'i', '_', '_']) (o := ['t', 'c', 'e', 'j', 'b', 'o']) (by kernel_rfl) PySem.F.owner_object]; kernel_rfl
theorem zip_no_len : typeLookup (.type "zip") "__len__" = pure none := by rw [typeLookup_type, builtinLookup_eq_fast]; kernel_rfl
theorem zip_no_hint : typeLookup (.type "zip") "__length_hint__" = pure none := by rw [typeLookup_type, builtinLookup_eq_fast]; kernel_rfl
abbrev IsZ3 (h : Heap) (z TI TO : Addr) (f0 f1 : Value) : Prop :=
  h.get? z = some { cls := .type "zip", dict := none, data := .fields #[f0, f1, .bool false, .ref TI, .ref TO], slots := #[] }
abbrev IsT3 (h : Heap) (T : Addr) (a b c : Value) : Prop := h.get? T = some { cls := .type "tuple", data := .seq #[a, b, c] }
theorem neA {a b : Nat} (h : a ≠ b) : @Ne Addr a b := h
section
variable {prog : Program} {w : World} {A : Around} {E : Value → Shared → Prop} {s : Shared}
abbrev z3H1 (h : Heap) (l1 : Addr) : Heap := h.push { cls := .type "list_iterator", data := .fields #[.ref l1, .int 0 0] }
abbrev z3H2 (h : Heap) (l1 l2 : Addr) : Heap := (z3H1 h l1).push { cls := .type "list_iterator", data := .fields #[.ref l2, .int 0 0] }
abbrev z3H3 (h : Heap) (l1 l2 l3 : Addr) : Heap := (z3H2 h l1 l2).push { cls := .type "list_iterator", data := .fields #[.ref l3, .int 0 0] }
abbrev z3H4 (h : Heap) (l1 l2 l3 : Addr) : Heap := (z3H3 h l1 l2 l3).push { cls := .type "tuple", data := .seq #[.ref h.objs.size, .ref (z3H1 h l1).objs.size, .ref (z3H2 h l1 l2).objs.size] }
abbrev z3H5 (h : Heap) (l1 l2 l3 : Addr) : Heap := (z3H4 h l1 l2 l3).push { cls := .type "tuple", data := .seq #[.none, .none, .none] }
abbrev z3H6 (h : Heap) (l1 l2 l3 : Addr) : Heap := (z3H5 h l1 l2 l3).push { cls := .type "zip", data := .fields #[.none, .bool false, .bool false, .ref (z3H3 h l1 l2 l3).objs.size, .ref (z3H4 h l1 l2 l3).objs.size] }
theorem meets_zip3_new (l1 l2 l3 : Addr) (xs ys zs : Array Value) :
    Meets (Builtin.«zip.__new__» ⟨[.type "zip", .ref l1, .ref l2, .ref l3], []⟩) (fun _ R s => s.heap.IsList l1 xs ∧ s.heap.IsList l2 ys ∧ s.heap.IsList l3 zs ∧
      R (.ok (.ret (.ref (z3H5 s.heap l1 l2 l3).objs.size))) { s with heap := z3H6 s.heap l1 l2 l3 }) :=
  .of_wp fun prog w A R s h => by
    obtain ⟨hp, g, d, tk, os⟩ := s; obtain ⟨hl1, hl2, hl3, h⟩ := h
    have hsub := sub_zip
    have hL1 : Heap.IsList (Shared.heap ⟨hp, g, d, tk, os⟩) l1 xs := hl1
    have hL2 : Heap.IsList (Shared.heap ⟨hp.push { cls := .type "list_iterator", data := .fields #[.ref l1, .int 0 0] }, g, d, tk, os⟩) l2 ys := Heap.IsList.push hl2 _
    have hL3 : Heap.IsList (Shared.heap ⟨(hp.push { cls := .type "list_iterator", data := .fields #[.ref l1, .int 0 0] }).push { cls := .type "list_iterator", data := .fields #[.ref l2, .int 0 0] }, g, d, tk, os⟩) l3 zs := Heap.IsList.push (Heap.IsList.push hl3 _) _
    wp_walk using wpAny_pyIter_list hL1, wpAny_pyIter_list hL2, wpAny_pyIter_list hL3
    exact ⟨_, rfl, h⟩
theorem call_zip_3 {l1 l2 l3 : Addr} {xs ys zs : Array Value} {Q : Value → Shared → Prop} {n : Nat} (hn : s.heap.objs.size = n) (hl1 : s.heap.IsList l1 xs) (hl2 : s.heap.IsList l2 ys) (hl3 : s.heap.IsList l3 zs)
    (h : ∀ h', IsZ3 h' (n + 5) (n + 3) (n + 4) .none (.bool false) → IsT3 h' (n + 3) (.ref n) (.ref (n + 1)) (.ref (n + 2)) →
      IsT3 h' (n + 4) .none .none .none → h'.IsListIter n l1 0 → h'.IsListIter (n + 1) l2 0 → h'.IsListIter (n + 2) l3 0 → h'.objs.size = n + 6 →
      (∀ c o, s.heap.get? c = some o → h'.get? c = some o) → Q (.ref (n + 5)) { s with heap := h' }) :
    wpAny (model prog w) A (call (.type "zip") [.ref l1, .ref l2, .ref l3]) Q E s := by
  subst hn
  refine callType_new F.called_zip (by decide) (typeCall_zip_3 _ _ _) (newCall_zip_3 _ _ _) (fun obj => args_object_init_4 obj _ _ _) F.entry_zip_new
    (meets_zip3_new l1 l2 l3 xs ys zs) ⟨hl1, hl2, hl3, ?_⟩
  have z1 : (z3H1 s.heap l1).objs.size = s.heap.objs.size + 1 := Heap.size_push ..
  have z2 : (z3H2 s.heap l1 l2).objs.size = s.heap.objs.size + 2 := by rw [Heap.size_push, z1]
  have z3 : (z3H3 s.heap l1 l2 l3).objs.size = s.heap.objs.size + 3 := by rw [Heap.size_push, z2]
  have z4 : (z3H4 s.heap l1 l2 l3).objs.size = s.heap.objs.size + 4 := by rw [Heap.size_push, z3]
  have z5 : (z3H5 s.heap l1 l2 l3).objs.size = s.heap.objs.size + 5 := by rw [Heap.size_push, z4]
  have z6 : (z3H6 s.heap l1 l2 l3).objs.size = s.heap.objs.size + 6 := by rw [Heap.size_push, z5]
  have g6 : (z3H6 s.heap l1 l2 l3).get? (z3H5 s.heap l1 l2 l3).objs.size = some _ := Heap.get?_push_size _ rfl
  have g5 : (z3H6 s.heap l1 l2 l3).get? (z3H4 s.heap l1 l2 l3).objs.size = some _ := Heap.get?_push_of_some _ (Heap.get?_push_size _ rfl)
  have g4 : (z3H6 s.heap l1 l2 l3).get? (z3H3 s.heap l1 l2 l3).objs.size = some _ := Heap.get?_push_of_some _ (Heap.get?_push_of_some _ (Heap.get?_push_size _ rfl))
  have g3 : (z3H6 s.heap l1 l2 l3).get? (z3H2 s.heap l1 l2).objs.size = some _ := Heap.get?_push_of_some _ (Heap.get?_push_of_some _ (Heap.get?_push_of_some _ (Heap.get?_push_size _ rfl)))
  have g2 : (z3H6 s.heap l1 l2 l3).get? (z3H1 s.heap l1).objs.size = some _ := Heap.get?_push_of_some _ (Heap.get?_push_of_some _ (Heap.get?_push_of_some _ (Heap.get?_push_of_some _ (Heap.get?_push_size _ rfl))))
  have g1 : (z3H6 s.heap l1 l2 l3).get? s.heap.objs.size = some _ := Heap.get?_push_of_some _ (Heap.get?_push_of_some _ (Heap.get?_push_of_some _ (Heap.get?_push_of_some _ (Heap.get?_push_of_some _ (Heap.get?_push_size _ rfl)))))
  show _ ∧ _
  rw [z3, z4, z5] at g6
  rw [z1, z2, z3] at g4
  rw [z4] at g5
  rw [z1] at g2
  rw [z2] at g3
  rw [z5]
  exact ⟨⟨_, g6, rfl⟩, h _ g6 g4 g5 ⟨_, g1, rfl, rfl⟩ ⟨_, g2, rfl, rfl⟩ ⟨_, g3, rfl, rfl⟩ z6 fun c o x =>
    Heap.get?_push_of_some _ (Heap.get?_push_of_some _ (Heap.get?_push_of_some _ (Heap.get?_push_of_some _ (Heap.get?_push_of_some _ (Heap.get?_push_of_some _ x)))))⟩
theorem upd3 {T : Addr} {a b c x : Value} {k : Nat} {Q : Unit → Shared → Prop} (hT : IsT3 s.heap T a b c)
    (h : ∀ h', h'.get? T = some { cls := .type "tuple", data := .seq ((#[a, b, c] : Array Value).setIfInBounds k x) } → Heap.SameBut T s.heap h' → Q () { s with heap := h' }) :
    wpAny (model prog w) A (updateSeq T (·.setIfInBounds k x)) Q E s := by
  refine wpAny_updateSeq hT rfl (h _ ?_ (Heap.SameBut.update ..))
  rw [Heap.get?_update_self _ hT rfl]
  simp [Obj.mapSeq]
end
end Mine
end
section
open PySem PySem.W PyProof.Rows PyProof.Rows.LCg
set_option maxRecDepth 100000
set_option maxHeartbeats 8000000
namespace Mine
section
variable {prog : Program} {w : World} {A : Around} {E : Value → Shared → Prop} {s : Shared}
theorem z3_first {n : Nat} {l1 l2 l3 : Nat} {xs ys zs : Array Value} {x y c : Value} {k : Nat} {Q : Value → Shared → Prop} (b1 : l1 < n) (b2 : l2 < n) (b3 : l3 < n)
    (hz : IsZ3 s.heap (n + 5) (n + 3) (n + 4) .none (.bool false)) (hTI : IsT3 s.heap (n + 3) (.ref n) (.ref (n + 1)) (.ref (n + 2))) (hTO : IsT3 s.heap (n + 4) .none .none .none)
    (h1 : s.heap.IsListIter n l1 k) (h2 : s.heap.IsListIter (n + 1) l2 k) (h3 : s.heap.IsListIter (n + 2) l3 k) (hl1 : s.heap.IsList l1 xs) (hl2 : s.heap.IsList l2 ys) (hl3 : s.heap.IsList l3 zs)
    (hx : xs[k]? = some x) (hy : ys[k]? = some y) (hc : zs[k]? = some c)
    (hQ : ∀ h', IsZ3 h' (n + 5) (n + 3) (n + 4) (rawInt s.heap.objs.size) (.bool false) → h'.IsListIter n l1 (k + 1) → h'.IsListIter (n + 1) l2 (k + 1) → h'.IsListIter (n + 2) l3 (k + 1) → IsT3 h' s.heap.objs.size x y c →
      (∀ (b : Nat) o, b ≠ n → b ≠ n + 1 → b ≠ n + 2 → b ≠ n + 4 → b ≠ n + 5 → s.heap.get? b = some o → h'.get? b = some o) → Q (.ref s.heap.objs.size) { s with heap := h' }) :
    wpAny (model prog w) A (Builtin.«zip.__next__» ⟨[.ref (n + 5)], []⟩) (fun fin s' => ∃ v, fin = .done (.ret v) ∧ Q v s') E s := by
  show wpAny _ _ (field (.ref (n + 5)) 2 >>= _) _ _ _
  refine wpAny_bind (wpAny_field hz rfl (x := .bool false) rfl ?_)
  show wpAny _ _ (field (.ref (n + 5)) 3 >>= _) _ _ _
  refine wpAny_bind (wpAny_field hz rfl (x := .ref (n + 3)) rfl ?_)
  refine wpAny_bind (wpAny_seqItems hTI rfl ?_)
  show wpAny _ _ (Builtin.SmallTypes.ownedTupleIsFree (.ref (n + 5)) >>= _) _ _ _
  refine wpAny_bind ?_
  unfold Builtin.SmallTypes.ownedTupleIsFree
  refine wpAny_bind (wpAny_field hz rfl (x := .none) rfl (wpAny_pure ?_))
  simp only [if_true]
  refine wpAny_bind (wpAny_rule ?_)
  refine wpAny_bind (wpAny_field hz rfl (x := .ref (n + 4)) rfl ?_)
  refine wpAny_bind (wpAny_setField_rec hz (by simp) fun g1 hz1 hs1 => ?_)
  replace hz1 : IsZ3 g1 (n + 5) (n + 3) (n + 4) .ellipsis (.bool false) := hz1
  have u1 : ∀ (b : Nat) o, b ≠ n + 5 → s.heap.get? b = some o → g1.get? b = some o := fun b o hb e => hs1.extBut b o (neA hb) e
  refine wpAny_bind ?_
  simp only [List.zipIdx_cons, List.zipIdx_nil, List.forIn_cons, List.forIn_nil]
  refine wpAny_bind (wpAny_bind (wpAny_onRaise ?_))
  show wpAny _ _ (Builtin.SmallTypes.nextOf (.ref n) >>= _) _ _ _
  refine wpAny_bind (wpAny_nextOf_list_item (h1.at fun o e => u1 n o (by omega) e) (hl1.at fun o e => u1 l1 o (by omega) e) hx fun g2 h1₂ hs2 => wpAny_pure ?_)
  have u2 : ∀ (b : Nat) o, b ≠ n → g1.get? b = some o → g2.get? b = some o := fun b o hb e => hs2.extBut b o (neA hb) e
  have hTO₂ : IsT3 g2 (n + 4) .none .none .none := u2 (n + 4) _ (by omega) (u1 (n + 4) _ (by omega) hTO)
  refine wpAny_bind (wpAny_seqItems hTO₂ rfl ?_)
  refine wpAny_bind (upd3 hTO₂ fun g3 hTO₃ hs3 => ?_)
  replace hTO₃ : IsT3 g3 (n + 4) x .none .none := hTO₃
  have u3 : ∀ (b : Nat) o, b ≠ n + 4 → g2.get? b = some o → g3.get? b = some o := fun b o hb e => hs3.extBut b o (neA hb) e
  refine wpAny_bind (wpAny_letGo (wpAny_pure ?_))
  refine wpAny_bind (wpAny_bind (wpAny_onRaise ?_))
  show wpAny _ _ (Builtin.SmallTypes.nextOf (.ref (n + 1)) >>= _) _ _ _
  refine wpAny_bind (wpAny_nextOf_list_item (h2.at fun o e => u3 (n + 1) o (by omega) (u2 (n + 1) o (by omega) (u1 (n + 1) o (by omega) e))) (hl2.at fun o e => u3 l2 o (by omega) (u2 l2 o (by omega) (u1 l2 o (by omega) e))) hy fun g4 h2₄ hs4 => wpAny_pure ?_)
  have u4 : ∀ (b : Nat) o, b ≠ n + 1 → g3.get? b = some o → g4.get? b = some o := fun b o hb e => hs4.extBut b o (neA hb) e
  have hTO₄ : IsT3 g4 (n + 4) x .none .none := u4 (n + 4) _ (by omega) hTO₃
  refine wpAny_bind (wpAny_seqItems hTO₄ rfl ?_)
  refine wpAny_bind (upd3 hTO₄ fun g5 hTO₅ hs5 => ?_)
  replace hTO₅ : IsT3 g5 (n + 4) x y .none := hTO₅
  have u5 : ∀ (b : Nat) o, b ≠ n + 4 → g4.get? b = some o → g5.get? b = some o := fun b o hb e => hs5.extBut b o (neA hb) e
  refine wpAny_bind (wpAny_letGo (wpAny_pure ?_))
  refine wpAny_bind (wpAny_bind (wpAny_onRaise ?_))
  show wpAny _ _ (Builtin.SmallTypes.nextOf (.ref (n + 2)) >>= _) _ _ _
  refine wpAny_bind (wpAny_nextOf_list_item (h3.at fun o e => u5 (n + 2) o (by omega) (u4 (n + 2) o (by omega) (u3 (n + 2) o (by omega) (u2 (n + 2) o (by omega) (u1 (n + 2) o (by omega) e)))))
    (hl3.at fun o e => u5 l3 o (by omega) (u4 l3 o (by omega) (u3 l3 o (by omega) (u2 l3 o (by omega) (u1 l3 o (by omega) e))))) hc fun g6 h3₆ hs6 => wpAny_pure ?_)
  have u6 : ∀ (b : Nat) o, b ≠ n + 2 → g5.get? b = some o → g6.get? b = some o := fun b o hb e => hs6.extBut b o (neA hb) e
  have hTO₆ : IsT3 g6 (n + 4) x y .none := u6 (n + 4) _ (by omega) hTO₅
  refine wpAny_bind (wpAny_seqItems hTO₆ rfl ?_)
  refine wpAny_bind (upd3 hTO₆ fun g7 hTO₇ hs7 => ?_)
  replace hTO₇ : IsT3 g7 (n + 4) x y c := hTO₇
  have u7 : ∀ (b : Nat) o, b ≠ n + 4 → g6.get? b = some o → g7.get? b = some o := fun b o hb e => hs7.extBut b o (neA hb) e
  refine wpAny_bind (wpAny_letGo (wpAny_pure (wpAny_pure ?_)))
  refine wpAny_bind (wpAny_seqItems hTO₇ rfl ?_)
  refine wpAny_bind (wpAny_newTuple ?_)
  have hsz : g7.objs.size = s.heap.objs.size := by rw [hs7.1, hs6.1, hs5.1, hs4.1, hs3.1, hs2.1, hs1.1]
  have hz₇ : IsZ3 g7 (n + 5) (n + 3) (n + 4) .ellipsis (.bool false) := u7 (n + 5) _ (by omega) (u6 (n + 5) _ (by omega) (u5 (n + 5) _ (by omega) (u4 (n + 5) _ (by omega) (u3 (n + 5) _ (by omega) (u2 (n + 5) _ (by omega) hz1)))))
  have hk₇ : ∀ (b : Nat) o, b ≠ n → b ≠ n + 1 → b ≠ n + 2 → b ≠ n + 4 → b ≠ n + 5 → s.heap.get? b = some o → g7.get? b = some o := fun b o c1 c2 c3 c4 c5 e =>
    u7 b o c4 (u6 b o c3 (u5 b o c4 (u4 b o c2 (u3 b o c4 (u2 b o c1 (u1 b o c5 e))))))
  have h1₇ : g7.IsListIter n l1 (k + 1) := h1₂.at fun o e => u7 n o (by omega) (u6 n o (by omega) (u5 n o (by omega) (u4 n o (by omega) (u3 n o (by omega) e))))
  have h2₇ : g7.IsListIter (n + 1) l2 (k + 1) := h2₄.at fun o e => u7 (n + 1) o (by omega) (u6 (n + 1) o (by omega) (u5 (n + 1) o (by omega) e))
  have h3₇ : g7.IsListIter (n + 2) l3 (k + 1) := h3₆.at fun o e => u7 (n + 2) o (by omega) e
  have hzlt : (n + 5 : Nat) < g7.objs.size := Heap.lt_size hz₇
  show wpAny _ _ (Builtin.SmallTypes.ownedTupleHandOut (.ref (n + 5)) (.ref g7.objs.size) >>= _) _ _ _
  refine wpAny_bind ?_
  unfold Builtin.SmallTypes.ownedTupleHandOut
  have hz₈ : IsZ3 (g7.push { cls := .type "tuple", data := .seq #[x, y, c] }) (n + 5) (n + 3) (n + 4) .ellipsis (.bool false) := Heap.get?_push_of_some _ hz₇
  refine wpAny_bind (wpAny_setField_rec hz₈ (by simp) fun g8 hz8 hs8 => ?_)
  replace hz8 : IsZ3 g8 (n + 5) (n + 3) (n + 4) (rawInt g7.objs.size) (.bool false) := hz8
  refine wpAny_setField_rec hz8 (by simp) fun g9 hz9 hs9 => ?_
  replace hz9 : IsZ3 g9 (n + 5) (n + 3) (n + 4) (rawInt g7.objs.size) (.bool false) := hz9
  have up : ∀ (b : Nat) o, b ≠ n + 5 → g7.get? b = some o → g9.get? b = some o := fun b o c1 e => hs9.extBut _ _ (neA c1) (hs8.extBut _ _ (neA c1) (Heap.get?_push_of_some _ e))
  have hT₉ : IsT3 g9 g7.objs.size x y c := hs9.extBut _ _ (neA (Nat.ne_of_gt hzlt)) (hs8.extBut _ _ (neA (Nat.ne_of_gt hzlt)) (Heap.get?_push_size _ rfl))
  rw [hsz] at hz9 hT₉
  refine wpAny_pure ⟨_, rfl, ?_⟩
  show Q (.ref g7.objs.size) _
  rw [hsz]
  exact hQ g9 hz9 (h1₇.at fun o e => up n o (by omega) e) (h2₇.at fun o e => up (n + 1) o (by omega) e) (h3₇.at fun o e => up (n + 2) o (by omega) e) hT₉ fun b o c1 c2 c3 c4 c5 e => up b o c5 (hk₇ b o c1 c2 c3 c4 c5 e)
end
end Mine
end
section
open PySem PySem.W PyProof.Rows PyProof.Rows.LCg
set_option maxRecDepth 100000
set_option maxHeartbeats 8000000
namespace Mine
section
variable {prog : Program} {w : World} {A : Around} {E : Value → Shared → Prop} {s : Shared}
theorem alive_ {M : Model} {a : Addr} {o : Obj} {Q : Option Obj → Shared → Prop} (ho : s.heap.get? a = some o) (h : Q (some o) s) : wpAny M A (loadIfAlive a) Q E s := by
  intro Γ p hΓ
  unfold loadIfAlive
  rw [Sem.wp_loadIfAlive, ho]
  exact h
theorem notfree {z TI TO T : Nat} {oT : Obj} {b : Bool} {Q : Bool → Shared → Prop} (hz : IsZ3 s.heap z TI TO (rawInt T) (.bool b)) (hT : s.heap.get? T = some oT)
    (h : ∀ h', IsZ3 h' z TI TO (rawInt T) (.bool true) → (∀ (c : Nat) o, c ≠ z → s.heap.get? c = some o → h'.get? c = some o) → h'.objs.size = s.heap.objs.size → Q false { s with heap := h' }) :
    wpAny (model prog w) A (Builtin.SmallTypes.ownedTupleIsFree (.ref z)) Q E s := by
  unfold Builtin.SmallTypes.ownedTupleIsFree
  refine wpAny_bind (wpAny_field hz rfl (x := rawInt T) rfl ?_)
  show wpAny _ _ (loadIfAlive ((T : Int).toNat) >>= _) _ _ _
  rw [Int.toNat_natCast]
  refine wpAny_bind (alive_ hT ?_)
  show wpAny _ _ (field (.ref z) 1 >>= _) _ _ _
  refine wpAny_bind (wpAny_field hz rfl (x := .bool b) rfl ?_)
  cases b with
  | true =>
    show wpAny _ _ (pure false) _ _ _
    exact wpAny_pure (h s.heap hz (fun c o _ e => e) rfl)
  | false =>
    show wpAny _ _ (setField (.ref z) 1 (.bool true) >>= fun _ => pure false) _ _ _
    exact wpAny_bind (wpAny_setField_rec hz (by simp) fun g1 hz1 hs1 => wpAny_pure (h g1 hz1 (fun c o hc e => hs1.extBut c o (neA hc) e) hs1.1))
theorem z3_later {n : Nat} {l1 l2 l3 T : Nat} {oT : Obj} {bb : Bool} {xs ys zs : Array Value} {x y c : Value} {k : Nat} {Q : Value → Shared → Prop} (b1 : l1 < n) (b2 : l2 < n) (b3 : l3 < n)
    (hz : IsZ3 s.heap (n + 5) (n + 3) (n + 4) (rawInt T) (.bool bb)) (hT : s.heap.get? T = some oT) (hTI : IsT3 s.heap (n + 3) (.ref n) (.ref (n + 1)) (.ref (n + 2)))
    (h1 : s.heap.IsListIter n l1 k) (h2 : s.heap.IsListIter (n + 1) l2 k) (h3 : s.heap.IsListIter (n + 2) l3 k) (hl1 : s.heap.IsList l1 xs) (hl2 : s.heap.IsList l2 ys) (hl3 : s.heap.IsList l3 zs)
    (hx : xs[k]? = some x) (hy : ys[k]? = some y) (hc : zs[k]? = some c)
    (hQ : ∀ h', IsZ3 h' (n + 5) (n + 3) (n + 4) (rawInt T) (.bool true) → h'.IsListIter n l1 (k + 1) → h'.IsListIter (n + 1) l2 (k + 1) → h'.IsListIter (n + 2) l3 (k + 1) → IsT3 h' s.heap.objs.size x y c →
      (∀ (b : Nat) o, b ≠ n → b ≠ n + 1 → b ≠ n + 2 → b ≠ n + 4 → b ≠ n + 5 → s.heap.get? b = some o → h'.get? b = some o) → Q (.ref s.heap.objs.size) { s with heap := h' }) :
    wpAny (model prog w) A (Builtin.«zip.__next__» ⟨[.ref (n + 5)], []⟩) (fun fin s' => ∃ v, fin = .done (.ret v) ∧ Q v s') E s := by
  show wpAny _ _ (field (.ref (n + 5)) 2 >>= _) _ _ _
  refine wpAny_bind (wpAny_field hz rfl (x := .bool false) rfl ?_)
  show wpAny _ _ (field (.ref (n + 5)) 3 >>= _) _ _ _
  refine wpAny_bind (wpAny_field hz rfl (x := .ref (n + 3)) rfl ?_)
  refine wpAny_bind (wpAny_seqItems hTI rfl ?_)
  show wpAny _ _ (Builtin.SmallTypes.ownedTupleIsFree (.ref (n + 5)) >>= _) _ _ _
  refine wpAny_bind (notfree hz hT fun g1 hz1 u1 sz1 => ?_)
  simp only [Bool.false_eq_true, if_false]
  refine wpAny_bind ?_
  simp only [List.forIn_toArray, List.forIn_cons, List.forIn_nil]
  refine wpAny_bind (wpAny_bind (wpAny_holding ?_))
  show wpAny _ _ (Builtin.SmallTypes.nextOf (.ref n) >>= _) _ _ _
  refine wpAny_bind (wpAny_nextOf_list_item (h1.at fun o e => u1 n o (by omega) e) (hl1.at fun o e => u1 l1 o (by omega) e) hx fun g2 h1₂ hs2 => wpAny_pure ?_)
  have u2 : ∀ (b : Nat) o, b ≠ n → g1.get? b = some o → g2.get? b = some o := fun b o hb e => hs2.extBut b o (neA hb) e
  refine wpAny_pure ?_
  refine wpAny_bind (wpAny_bind (wpAny_holding ?_))
  show wpAny _ _ (Builtin.SmallTypes.nextOf (.ref (n + 1)) >>= _) _ _ _
  refine wpAny_bind (wpAny_nextOf_list_item (h2.at fun o e => u2 (n + 1) o (by omega) (u1 (n + 1) o (by omega) e)) (hl2.at fun o e => u2 l2 o (by omega) (u1 l2 o (by omega) e)) hy fun g4 h2₄ hs4 => wpAny_pure ?_)
  have u4 : ∀ (b : Nat) o, b ≠ n + 1 → g2.get? b = some o → g4.get? b = some o := fun b o hb e => hs4.extBut b o (neA hb) e
  refine wpAny_pure ?_
  refine wpAny_bind (wpAny_bind (wpAny_holding ?_))
  show wpAny _ _ (Builtin.SmallTypes.nextOf (.ref (n + 2)) >>= _) _ _ _
  refine wpAny_bind (wpAny_nextOf_list_item (h3.at fun o e => u4 (n + 2) o (by omega) (u2 (n + 2) o (by omega) (u1 (n + 2) o (by omega) e))) (hl3.at fun o e => u4 l3 o (by omega) (u2 l3 o (by omega) (u1 l3 o (by omega) e))) hc fun g6 h3₆ hs6 => wpAny_pure ?_)
  have u6 : ∀ (b : Nat) o, b ≠ n + 2 → g4.get? b = some o → g6.get? b = some o := fun b o hb e => hs6.extBut b o (neA hb) e
  refine wpAny_pure (wpAny_pure ?_)
  refine wpAny_bind (wpAny_newTuple ?_ (by show 3 ≤ sizeLine; rw [sizeLine_eq]; decide))
  have hsz : g6.objs.size = s.heap.objs.size := by rw [hs6.1, hs4.1, hs2.1, sz1]
  refine wpAny_pure ⟨_, rfl, ?_⟩
  show Q (.ref g6.objs.size) _
  have hT₉ : IsT3 (g6.push { cls := .type "tuple", data := .seq #[x, y, c] }) g6.objs.size x y c := Heap.get?_push_size _ rfl
  rw [hsz] at hT₉ ⊢
  have up : ∀ (b : Nat) o, b ≠ n → b ≠ n + 1 → b ≠ n + 2 → g1.get? b = some o → (g6.push { cls := .type "tuple", data := .seq #[x, y, c] }).get? b = some o := fun b o c1 c2 c3 e => Heap.get?_push_of_some _ (u6 b o c3 (u4 b o c2 (u2 b o c1 e)))
  exact hQ _ (up (n + 5) _ (by omega) (by omega) (by omega) hz1) (h1₂.at fun o e => Heap.get?_push_of_some _ (u6 n o (by omega) (u4 n o (by omega) e))) (h2₄.at fun o e => Heap.get?_push_of_some _ (u6 (n + 1) o (by omega) e)) (h3₆.at fun o e => Heap.get?_push_of_some _ e) hT₉
    fun b o c1 c2 c3 _ c5 e => up b o c1 c2 c3 (u1 b o c5 e)
theorem z3_end {n : Nat} {l1 T : Nat} {oT : Obj} {bb : Bool} {xs : Array Value} {k : Nat} {Q : Fin → Shared → Prop} (hh : A.handled = none) (b1 : l1 < n)
    (hz : IsZ3 s.heap (n + 5) (n + 3) (n + 4) (rawInt T) (.bool bb)) (hT : s.heap.get? T = some oT) (hTI : IsT3 s.heap (n + 3) (.ref n) (.ref (n + 1)) (.ref (n + 2)))
    (h1 : s.heap.IsListIter n l1 k) (hl1 : s.heap.IsList l1 xs) (hx : xs[k]? = none)
    (hE : ∀ h' e, (∀ (b : Nat) o, b ≠ n → b ≠ n + 5 → s.heap.get? b = some o → h'.get? b = some o) → (∃ o, h'.get? e = some o ∧ o.cls = .type "StopIteration") → E (.ref e) { s with heap := h' }) :
    wpAny (model prog w) A (Builtin.«zip.__next__» ⟨[.ref (n + 5)], []⟩) Q E s := by
  show wpAny _ _ (field (.ref (n + 5)) 2 >>= _) _ _ _
  refine wpAny_bind (wpAny_field hz rfl (x := .bool false) rfl ?_)
  show wpAny _ _ (field (.ref (n + 5)) 3 >>= _) _ _ _
  refine wpAny_bind (wpAny_field hz rfl (x := .ref (n + 3)) rfl ?_)
  refine wpAny_bind (wpAny_seqItems hTI rfl ?_)
  show wpAny _ _ (Builtin.SmallTypes.ownedTupleIsFree (.ref (n + 5)) >>= _) _ _ _
  refine wpAny_bind (notfree hz hT fun g1 hz1 u1 sz1 => ?_)
  simp only [Bool.false_eq_true, if_false]
  refine wpAny_bind ?_
  simp only [List.forIn_toArray, List.forIn_cons, List.forIn_nil]
  refine wpAny_bind (wpAny_bind (wpAny_holding ?_))
  show wpAny _ _ (Builtin.SmallTypes.nextOf (.ref n) >>= _) _ _ _
  refine wpAny_bind (wpAny_nextOf_list_end hh (h1.at fun o e => u1 n o (by omega) e) (hl1.at fun o e => u1 l1 o (by omega) e) hx fun g2 e he ho => ?_)
  exact hE g2 e (fun b o c1 c5 x => he b o (neA c1) (u1 b o c5 x)) ho
theorem pyNext_z {z : Addr} {TI TO : Addr} {f0 f1 : Value} {Q : Option Value → Shared → Prop} (hz : IsZ3 s.heap z TI TO f0 f1)
    (h : wpAny (model prog w) A.in1 (Builtin.«zip.__next__» ⟨[.ref z], []⟩) (fun fin s' => ∃ v, fin = .done (.ret v) ∧ Q (some v) s')
      (fun e s' => ∃ o, (∃ a, e = .ref a ∧ s'.heap.get? a = some o ∧ o.cls = .type "StopIteration") ∧ Q none s') s) : wpAny (model prog w) A (pyNext (.ref z)) Q E s := by
  have hT : s.TypeIs (.ref z) "zip" := ⟨_, hz, rfl⟩
  unfold pyNext
  refine wpAny_bind (wpAny_attempt (wpAny_callSpecial?_slot (name := Str.ofString "__next__") hT F.slot_zip_next
    (wpAny_call_entry F.slot_zip_next hT F.entry_zip_next (wpAny_mono h (fun fin s' h' => ?_) fun e s' h' => ?_) (F.args_zip_next_1 _))))
  · obtain ⟨v, rfl, hq⟩ := h'
    exact ⟨v, rfl, wpAny_pure hq⟩
  · obtain ⟨o, ⟨a, rfl, ho, hc⟩, hq⟩ := h'
    refine wpAny_bind (wpAny_isInstance (T := "StopIteration") (b := true) ⟨o, ho, hc⟩ isSubtype_stop ?_)
    exact wpAny_pure hq
end
end Mine
end
section
open PySem PySem.W PyProof.Rows PyProof.Rows.LCg
set_option maxRecDepth 100000
set_option maxHeartbeats 8000000
namespace Mine
abbrev LO (acc : Array Value) (c : Nat) : Obj := { cls := .type "list", dict := none, data := .seq acc c, slots := #[] }
structure ZInv (n l1 l2 l3 : Nat) (xs ys zs : Array Value) (h₀ : Heap) (i : Nat) (acc : Array Value) (h : Heap) : Prop where
  zip : ∃ (T : Nat) (bb : Bool) (oT : Obj), IsZ3 h (n + 5) (n + 3) (n + 4) (rawInt T) (.bool bb) ∧ h.get? T = some oT ∧ n + 7 ≤ T
  its : IsT3 h (n + 3) (.ref n) (.ref (n + 1)) (.ref (n + 2))
  i1 : h.IsListIter n l1 i
  i2 : h.IsListIter (n + 1) l2 i
  i3 : h.IsListIter (n + 2) l3 i
  L1 : h.IsList l1 xs
  L2 : h.IsList l2 ys
  L3 : h.IsList l3 zs
  size : acc.size = i
  tup : ∀ (j : Nat) (x y c : Value), j < i → xs[j]? = some x → ys[j]? = some y → zs[j]? = some c → ∃ t : Nat, n + 7 ≤ t ∧ acc[j]? = some (.ref t) ∧ IsT3 h t x y c
  lst : ∃ cc, h.get? (n + 6 : Nat) = some (LO acc cc)
  old : ∀ (b : Nat) o, b < n → h₀.get? b = some o → h.get? b = some o
  above : n + 7 ≤ h.objs.size
section
variable {prog : Program} {w : World} {A : Around} {E : Value → Shared → Prop} {s : Shared}
theorem pushed {n : Nat} {acc : Array Value} {cc : Nat} {v : Value} {h : Heap} (hS : h.get? (n + 6 : Nat) = some (LO acc cc)) :
    ∃ c', (h.update (n + 6 : Nat) (Obj.mapSeq (·.push v))).get? (n + 6 : Nat) = some (LO (acc.push v) c') := by
  rw [Heap.get?_update_self _ hS rfl]
  exact ⟨_, rfl⟩
theorem ZInv.next {n l1 l2 l3 : Nat} {xs ys zs : Array Value} {h₀ : Heap} {i : Nat} {acc : Array Value} {h h' : Heap} (b1 : l1 < n) (b2 : l2 < n) (b3 : l3 < n) {x y c : Value} {T : Nat} {bb : Bool} {oT : Obj} {t : Nat}
    (V : ZInv n l1 l2 l3 xs ys zs h₀ i acc h) (hx : xs[i]? = some x) (hy : ys[i]? = some y) (hc : zs[i]? = some c)
    (a1 : IsZ3 h' (n + 5) (n + 3) (n + 4) (rawInt T) (.bool bb)) (aT : h'.get? T = some oT) (bT : n + 7 ≤ T) (a2 : h'.IsListIter n l1 (i + 1)) (a3 : h'.IsListIter (n + 1) l2 (i + 1)) (a4 : h'.IsListIter (n + 2) l3 (i + 1)) (a5 : IsT3 h' t x y c) (ht : n + 7 ≤ t)
    (a6 : ∀ (b : Nat) o, b ≠ n → b ≠ n + 1 → b ≠ n + 2 → b ≠ n + 4 → b ≠ n + 5 → h.get? b = some o → h'.get? b = some o) (hsz : h.objs.size ≤ h'.objs.size) :
    ∃ cc, h'.get? (n + 6 : Nat) = some (LO acc cc) ∧ ZInv n l1 l2 l3 xs ys zs h₀ (i + 1) (acc.push (.ref t)) (h'.update (n + 6 : Nat) (Obj.mapSeq (·.push (.ref t)))) := by
  obtain ⟨cc, hcc⟩ := V.lst
  have hS' : h'.get? (n + 6 : Nat) = some (LO acc cc) := a6 (n + 6) _ (by omega) (by omega) (by omega) (by omega) (by omega) hcc
  have up : ∀ (b : Nat) o, b ≠ n + 6 → h'.get? b = some o → (h'.update (n + 6 : Nat) (Obj.mapSeq (·.push (.ref t)))).get? b = some o := fun b o hb e => (Heap.get?_update_other _ _ (neA (Ne.symm hb))).trans e
  refine ⟨cc, hS', ⟨T, bb, oT, up (n + 5) _ (by omega) a1, up T _ (by omega) aT, bT⟩, up (n + 3) _ (by omega) (a6 (n + 3) _ (by omega) (by omega) (by omega) (by omega) (by omega) V.its),
    a2.at fun o e => up n o (by omega) e, a3.at fun o e => up (n + 1) o (by omega) e, a4.at fun o e => up (n + 2) o (by omega) e,
    V.L1.at fun o e => up l1 o (by omega) (a6 l1 o (by omega) (by omega) (by omega) (by omega) (by omega) e), V.L2.at fun o e => up l2 o (by omega) (a6 l2 o (by omega) (by omega) (by omega) (by omega) (by omega) e), V.L3.at fun o e => up l3 o (by omega) (a6 l3 o (by omega) (by omega) (by omega) (by omega) (by omega) e),
    by rw [Array.size_push, V.size], ?_, pushed hS', fun b o hb e => up b o (by omega) (a6 b o (by omega) (by omega) (by omega) (by omega) (by omega) (V.old b o hb e)), ?_⟩
  · intro j x' y' c' hj hx' hy' hc'
    by_cases e : j = i
    · subst e
      rw [hx] at hx'; rw [hy] at hy'; rw [hc] at hc'
      cases hx'; cases hy'; cases hc'
      exact ⟨t, ht, by rw [← V.size]; exact Array.getElem?_push_size, up t _ (by omega) a5⟩
    · obtain ⟨t', ht', e1, e2⟩ := V.tup j x' y' c' (by omega) hx' hy' hc'
      refine ⟨t', ht', ?_, up t' _ (by omega) (a6 t' _ (by omega) (by omega) (by omega) (by omega) (by omega) e2)⟩
      rw [Array.getElem?_push_lt (by rw [V.size]; omega)]
      rw [← e1, Array.getElem?_eq_getElem (by rw [V.size]; omega)]
  · have := V.above
    have e : (h'.update (n + 6 : Nat) (Obj.mapSeq (·.push (.ref t)))).objs.size = h'.objs.size := (Heap.SameBut.update ..).1
    rw [e]; omega
theorem drain {n l1 l2 l3 : Nat} {xs ys zs : Array Value} {h₀ : Heap} (hh : A.handled = none) (b1 : l1 < n) (b2 : l2 < n) (b3 : l3 < n) (h12 : ys.size = xs.size) (h13 : zs.size = xs.size) (hN : xs.size ≤ 8) (res : Value) {R : Result → Shared → Prop} :
    ∀ (k i : Nat) (s : Shared) (acc : Array Value), xs.size - i = k → i ≤ xs.size → ZInv n l1 l2 l3 xs ys zs h₀ i acc s.heap →
    (∀ h' acc', ZInv n l1 l2 l3 xs ys zs h₀ xs.size acc' h' ∨ (∃ h'', ZInv n l1 l2 l3 xs ys zs h₀ xs.size acc' h'' ∧ ∀ (b : Nat) o, b ≠ n → b ≠ n + 5 → h''.get? b = some o → h'.get? b = some o) → R (.ok (.ret res)) { s with heap := h' }) →
    codeAny (model prog w) A (.builtin "list.extend.loop" ⟨[.ref (n + 6), .ref (n + 5), res], []⟩) R s := by
  intro k
  induction k with
  | zero =>
    intro i s acc hk hi V hR
    have hin : i = xs.size := by omega
    subst hin
    refine codeAny_builtin F.entry_extend_loop ?_
    rw [Around.under_plainId F.plain_extend_loop _]
    show wpAny _ A.in1 (pyNext (.ref (n + 5)) >>= _) _ _ s
    obtain ⟨T, bb, oT, hz, hT, hbT⟩ := V.zip
    refine wpAny_bind (pyNext_z hz (z3_end hh b1 hz hT V.its V.i1 V.L1 (Array.getElem?_eq_none (Nat.le_refl _)) fun h' e he ho => ?_))
    obtain ⟨o, ho, hc⟩ := ho
    exact ⟨o, ⟨e, rfl, ho, hc⟩, wpAny_pure (hR h' acc (.inr ⟨s.heap, V, he⟩))⟩
  | succ k ih =>
    intro i s acc hk hi V hR
    have hlt : i < xs.size := by omega
    refine codeAny_builtin F.entry_extend_loop ?_
    rw [Around.under_plainId F.plain_extend_loop _]
    show wpAny _ A.in1 (pyNext (.ref (n + 5)) >>= _) _ _ s
    obtain ⟨T, bb, oT, hz, hT, hbT⟩ := V.zip
    have hx : xs[i]? = some xs[i] := Array.getElem?_eq_getElem hlt
    have hy : ys[i]? = some ys[i] := Array.getElem?_eq_getElem (by omega)
    have hc : zs[i]? = some zs[i] := Array.getElem?_eq_getElem (by omega)
    refine wpAny_bind (pyNext_z hz (z3_later b1 b2 b3 hz hT V.its V.i1 V.i2 V.i3 V.L1 V.L2 V.L3 hx hy hc fun h' a1 a2 a3 a4 a5 a6 => ?_))
    have hsz : s.heap.objs.size ≤ h'.objs.size := Nat.le_of_lt (Heap.lt_size a5)
    obtain ⟨cc, hS', V'⟩ := V.next b1 b2 b3 hx hy hc a1 (a6 T _ (by omega) (by omega) (by omega) (by omega) (by omega) hT) hbT a2 a3 a4 a5 V.above a6 hsz
    show wpAny _ A.in1 (updateSeq (n + 6 : Nat) (·.push (.ref s.heap.objs.size)) >>= _) _ _ _
    refine wpAny_bind (wpAny_updateSeq hS' rfl (wpAny_pure ⟨plainId_quiet F.plain_extend_loop _, ih (i + 1) _ _ (by omega) hlt V' fun h'' acc' hV => hR h'' acc' hV⟩) ?_ ?_)
    · rw [V.size, sizeLine_eq]; omega
    · show (acc.push (.ref s.heap.objs.size)).size ≤ sizeLine + 1
      rw [Array.size_push, V.size, sizeLine_eq]; omega
end
end Mine
end
section
open PySem PySem.W PyProof.Rows PyProof.Rows.LCg
set_option maxRecDepth 100000
set_option maxHeartbeats 8000000
namespace Mine
section
variable {prog : Program} {w : World} {A : Around} {E : Value → Shared → Prop} {s : Shared}
def ZDone (n l1 l2 l3 : Nat) (xs ys zs : Array Value) (h₀ : Heap) (h' : Heap) : Prop :=
  ∃ h'' acc, ZInv n l1 l2 l3 xs ys zs h₀ xs.size acc h'' ∧ ∀ (b : Nat) o, b ≠ n → b ≠ n + 5 → h''.get? b = some o → h'.get? b = some o
theorem extend_zip3 {n l1 l2 l3 : Nat} {xs ys zs : Array Value} {h₀ : Heap} {c₀ : Nat} {R : Result → Shared → Prop} (hh : A.handled = none) (b1 : l1 < n) (b2 : l2 < n) (b3 : l3 < n) (h12 : ys.size = xs.size) (h13 : zs.size = xs.size) (hN : xs.size ≤ 8) (hpos : 0 < xs.size)
    (hsz : n + 7 ≤ s.heap.objs.size) (hz : IsZ3 s.heap (n + 5) (n + 3) (n + 4) .none (.bool false)) (hTI : IsT3 s.heap (n + 3) (.ref n) (.ref (n + 1)) (.ref (n + 2))) (hTO : IsT3 s.heap (n + 4) .none .none .none)
    (h1 : s.heap.IsListIter n l1 0) (h2 : s.heap.IsListIter (n + 1) l2 0) (h3 : s.heap.IsListIter (n + 2) l3 0) (hl1 : s.heap.IsList l1 xs) (hl2 : s.heap.IsList l2 ys) (hl3 : s.heap.IsList l3 zs)
    (hS : s.heap.get? (n + 6 : Nat) = some (LO #[] c₀)) (hold : ∀ (b : Nat) o, b < n → h₀.get? b = some o → s.heap.get? b = some o)
    (hR : ∀ h', ZDone n l1 l2 l3 xs ys zs h₀ h' → R (.ok (.ret .none)) { s with heap := h' }) :
    wpAny (model prog w) A.in1 (Builtin.List.listExtendWith (.ref (n + 6)) (.ref (n + 5)) .none)
      (fun fin s' => match fin with | .done f => R (.ok f) s' | .again c' => c'.quiet = true ∧ codeAny (model prog w) A c' R s') (fun e s' => R (.error e) s') s := by
  have hT : s.TypeIs (.ref (n + 5)) "zip" := ⟨_, hz, rfl⟩
  unfold Builtin.List.listExtendWith
  refine wpAny_bind (wpAny_typeOf hT ?_)
  have h1' : Builtin.List.listSameRef (.ref (n + 6)) (.ref (n + 5)) = false := by simp [Builtin.List.listSameRef]
  have h2' : (Value.type "zip" == Value.type "list") = false := by decide
  have h3' : (Value.type "zip" == Value.type "tuple") = false := by decide
  simp only [h1', h2', h3', Bool.or_false, Bool.false_eq_true, if_false]
  refine wpAny_bind (wpAny_pyIter_slot hT F.slot_zip_iter (wpAny_call_entry F.slot_zip_iter hT F.entry_zip_iter ?_ (F.args_zip_iter_1 _)))
  show wpAny _ _ (ret (.ref (n + 5))) _ _ s
  refine wpAny_pure ⟨_, rfl, "zip", _, hT, F.slot_zip_next.lookup, ?_⟩
  refine wpAny_bind (wpAny_holding ?_)
  unfold Builtin.List.listLengthHint
  refine wpAny_bind (wpAny_specialOf hT zip_no_len ?_)
  show wpAny _ A.in1 (specialOf (Value.ref (n + 5)) (Str.ofString "__length_hint__") >>= _) _ _ _
  refine wpAny_bind (wpAny_specialOf hT zip_no_hint ?_)
  refine wpAny_pure ?_
  show wpAny _ A.in1 (rule "list.extend.makes-room" >>= fun _ => Builtin.List.listTouch (.ref (n + 6)) >>= fun _ =>
    again (.builtin "list.extend.loop" ⟨[.ref (n + 6), .ref (n + 5), .none], []⟩)) _ _ _
  refine wpAny_bind (wpAny_rule ?_)
  refine wpAny_bind ?_
  show wpAny _ A.in1 (updateSeq (n + 6 : Nat) (·.push .none) >>= fun _ => updateSeq (n + 6 : Nat) (·.pop)) _ _ _
  refine wpAny_bind (wpAny_updateSeq hS rfl ?_)
  have hS₂ := Heap.get?_update_self (Obj.mapSeq (·.push Value.none)) hS rfl
  refine wpAny_updateSeq (hz := by seq_fits) hS₂ rfl ?_
  have hS₃ := Heap.get?_update_self (Obj.mapSeq (·.pop)) hS₂ rfl
  generalize hH : (s.heap.update (n + 6 : Nat) (Obj.mapSeq (·.push Value.none))).update (n + 6 : Nat) (Obj.mapSeq (·.pop)) = H at hS₃ ⊢
  have oth : ∀ (b : Nat) o, b ≠ n + 6 → s.heap.get? b = some o → H.get? b = some o :=
    fun b o hb e => by rw [← hH]; exact (Heap.get?_update_other _ _ (neA (Ne.symm hb))).trans ((Heap.get?_update_other _ _ (neA (Ne.symm hb))).trans e)
  have hHsz : H.objs.size = s.heap.objs.size := by rw [← hH]; exact (Heap.SameBut.update ..).1.trans (Heap.SameBut.update ..).1
  have hS₄ : ∃ c, H.get? (n + 6 : Nat) = some (LO #[] c) := ⟨_, hS₃⟩
  obtain ⟨c₄, hS₄⟩ := hS₄
  clear hS₃ hS₂ hH
  refine wpAny_pure ⟨plainId_quiet F.plain_extend_loop _, ?_⟩
  refine codeAny_builtin F.entry_extend_loop ?_
  rw [Around.under_plainId F.plain_extend_loop _]
  show wpAny _ A.in1 (pyNext (.ref (n + 5)) >>= _) _ _ _
  have hx : xs[0]? = some xs[0] := Array.getElem?_eq_getElem hpos
  have hy : ys[0]? = some ys[0] := Array.getElem?_eq_getElem (by omega)
  have hc : zs[0]? = some zs[0] := Array.getElem?_eq_getElem (by omega)
  have hz₁ : IsZ3 H (n + 5) (n + 3) (n + 4) .none (.bool false) := oth (n + 5) _ (by omega) hz
  refine wpAny_bind (pyNext_z (s := { s with heap := H }) hz₁ (z3_first (s := { s with heap := H }) b1 b2 b3 hz₁ (oth (n + 3) _ (by omega) hTI) (oth (n + 4) _ (by omega) hTO) (h1.at fun o e => oth n o (by omega) e) (h2.at fun o e => oth (n + 1) o (by omega) e) (h3.at fun o e => oth (n + 2) o (by omega) e)
    (hl1.at fun o e => oth l1 o (by omega) e) (hl2.at fun o e => oth l2 o (by omega) e) (hl3.at fun o e => oth l3 o (by omega) e) hx hy hc fun h' a1 a2 a3 a4 a5 a6 => ?_))
  dsimp only at a1 a5 a6 ⊢
  have hS' : h'.get? (n + 6 : Nat) = some (LO #[] c₄) := a6 (n + 6) _ (by omega) (by omega) (by omega) (by omega) (by omega) hS₄
  have hT' : n + 7 ≤ H.objs.size := by omega
  have up : ∀ (b : Nat) o, b ≠ n + 6 → h'.get? b = some o → (h'.update (n + 6 : Nat) (Obj.mapSeq (·.push (.ref H.objs.size)))).get? b = some o := fun b o hb e => (Heap.get?_update_other _ _ (neA (Ne.symm hb))).trans e
  have upo : ∀ (b : Nat) o, b < n → s.heap.get? b = some o → (h'.update (n + 6 : Nat) (Obj.mapSeq (·.push (.ref H.objs.size)))).get? b = some o := fun b o hb e => up b o (by omega) (a6 b o (by omega) (by omega) (by omega) (by omega) (by omega) (oth b o (by omega) e))
  show wpAny _ A.in1 (updateSeq (n + 6 : Nat) (·.push (.ref H.objs.size)) >>= _) _ _ _
  refine wpAny_bind (wpAny_updateSeq hS' rfl (wpAny_pure ⟨plainId_quiet F.plain_extend_loop _, drain (h₀ := h₀) hh b1 b2 b3 h12 h13 hN .none (xs.size - 1) 1 _ #[.ref H.objs.size] rfl hpos ?_ fun h'' acc' hV => ?_⟩) (by show 0 ≤ sizeLine; omega) (by show 1 ≤ sizeLine + 1; omega))
  · refine ⟨⟨H.objs.size, false, _, up (n + 5) _ (by omega) a1, up H.objs.size _ (by omega) a5, hT'⟩, up (n + 3) _ (by omega) (a6 (n + 3) _ (by omega) (by omega) (by omega) (by omega) (by omega) (oth (n + 3) _ (by omega) hTI)),
      a2.at fun o e => up n o (by omega) e, a3.at fun o e => up (n + 1) o (by omega) e, a4.at fun o e => up (n + 2) o (by omega) e, hl1.at fun o e => upo l1 o b1 e, hl2.at fun o e => upo l2 o b2 e, hl3.at fun o e => upo l3 o b3 e,
      rfl, ?_, pushed hS', fun b o hb e => upo b o hb (hold b o hb e), ?_⟩
    · intro j x' y' c' hj hx' hy' hc'
      have : j = 0 := by omega
      subst this
      rw [hx] at hx'; rw [hy] at hy'; rw [hc] at hc'
      cases hx'; cases hy'; cases hc'
      exact ⟨H.objs.size, hT', rfl, up H.objs.size _ (by omega) a5⟩
    · have e : (h'.update (n + 6 : Nat) (Obj.mapSeq (·.push (.ref H.objs.size)))).objs.size = h'.objs.size := (Heap.SameBut.update ..).1
      have : (H.objs.size : Nat) < h'.objs.size := Heap.lt_size a5
      rw [e]; omega
  · refine hR h'' ?_
    rcases hV with hV | ⟨h3, hV, hk⟩
    · exact ⟨h'', acc', hV, fun _ _ _ _ e => e⟩
    · exact ⟨h3, acc', hV, hk⟩
theorem list_zip3 {n l1 l2 l3 : Nat} {xs ys zs : Array Value} {h₀ : Heap} {Q : Value → Shared → Prop} (hh : A.handled = none) (b1 : l1 < n) (b2 : l2 < n) (b3 : l3 < n) (h12 : ys.size = xs.size) (h13 : zs.size = xs.size) (hN : xs.size ≤ 8) (hpos : 0 < xs.size)
    (hsz : s.heap.objs.size = n + 6) (hz : IsZ3 s.heap (n + 5) (n + 3) (n + 4) .none (.bool false)) (hTI : IsT3 s.heap (n + 3) (.ref n) (.ref (n + 1)) (.ref (n + 2))) (hTO : IsT3 s.heap (n + 4) .none .none .none)
    (h1 : s.heap.IsListIter n l1 0) (h2 : s.heap.IsListIter (n + 1) l2 0) (h3 : s.heap.IsListIter (n + 2) l3 0) (hl1 : s.heap.IsList l1 xs) (hl2 : s.heap.IsList l2 ys) (hl3 : s.heap.IsList l3 zs)
    (hold : ∀ (b : Nat) o, b < n → h₀.get? b = some o → s.heap.get? b = some o)
    (hQ : ∀ h', ZDone n l1 l2 l3 xs ys zs h₀ h' → Q (.ref (n + 6)) { s with heap := h' }) :
    wpAny (model prog w) A (call (.type "list") [.ref (n + 5)]) Q E s := by
  refine callType_codes (Q₁ := fun obj s₁ => obj = .ref s.heap.objs.size ∧ s₁ = { s with heap := s.heap.push { cls := .type "list", data := .seq #[] } }) F.called_list (F.typeCall_list_1 _) F.entry_list_init
    (code_list_new _ ⟨rfl, rfl⟩) fun obj s₁ h₁ => ?_
  obtain ⟨rfl, rfl⟩ := h₁
  have hS : (s.heap.push { cls := .type "list", data := .seq #[] }).get? s.heap.objs.size = some { cls := .type "list", data := .seq #[] } := Heap.get?_push_size _ rfl
  refine ⟨⟨_, hS, rfl⟩, F.args_list_init_2 _ _, ?_⟩
  rw [hsz] at hS ⊢
  have up : ∀ (b : Nat) o, s.heap.get? b = some o → (s.heap.push { cls := .type "list", data := .seq #[] }).get? b = some o := fun b o e => Heap.get?_push_of_some _ e
  show wpAny _ A.in1.in1 (do let old ← Builtin.List.listItems (.ref (n + 6)); Builtin.List.listUpdate (.ref (n + 6)) (fun _ => #[]); letGo old.toList.reverse; Builtin.List.listExtendWith (.ref (n + 6)) (.ref (n + 5)) .none) _ _ _
  refine wpAny_bind ?_
  unfold Builtin.List.listItems
  refine wpAny_bind (wpAny_seqItems hS rfl (wpAny_pure ?_))
  show wpAny _ A.in1.in1 (updateSeq (n + 6 : Nat) (fun _ => #[]) >>= fun _ => letGo (#[] : Array Value).toList.reverse >>= fun _ => Builtin.List.listExtendWith (.ref (n + 6)) (.ref (n + 5)) .none) _ _ _
  refine wpAny_bind (wpAny_updateSeq hS rfl ?_)
  have hS₂ := Heap.get?_update_self (Obj.mapSeq (fun _ => (#[] : Array Value))) hS rfl
  generalize hH : (s.heap.push { cls := .type "list", data := .seq #[] }).update (n + 6 : Nat) (Obj.mapSeq (fun _ => (#[] : Array Value))) = H at hS₂ ⊢
  have oth : ∀ (b : Nat) o, b ≠ n + 6 → s.heap.get? b = some o → H.get? b = some o :=
    fun b o hb e => by rw [← hH]; exact (Heap.get?_update_other _ _ (neA (Ne.symm hb))).trans (up b o e)
  have hHsz : H.objs.size = n + 7 := by rw [← hH]; exact (Heap.SameBut.update ..).1.trans (by rw [Heap.size_push, hsz])
  refine wpAny_bind (wpAny_letGo ?_)
  refine extend_zip3 (A := A.in1) (h₀ := h₀) (s := { s with heap := H }) hh b1 b2 b3 h12 h13 hN hpos (by show n + 7 ≤ H.objs.size; omega) (oth (n + 5) _ (by omega) hz) (oth (n + 3) _ (by omega) hTI) (oth (n + 4) _ (by omega) hTO) (h1.at fun o e => oth n o (by omega) e) (h2.at fun o e => oth (n + 1) o (by omega) e) (h3.at fun o e => oth (n + 2) o (by omega) e)
    (hl1.at fun o e => oth l1 o (by omega) e) (hl2.at fun o e => oth l2 o (by omega) e) (hl3.at fun o e => oth l3 o (by omega) e) hS₂ (fun b o hb e => oth b o (by omega) (hold b o hb e)) fun h' hZ => ?_
  exact ⟨rfl, hQ h' hZ⟩
end
end Mine
end
section
open PySem PySem.W PyProof.Rows PyProof.Rows.LCg
set_option maxRecDepth 100000
set_option maxHeartbeats 8000000
namespace Mine
structure ZFresh (n : Nat) (l1 l2 l3 : Nat) (xs ys zs : List Value) (h₀ : Heap) (L : Addr) (news : List (Addr × Obj)) (h : Heap) : Prop where
  b1 : l1 < n
  b2 : l2 < n
  b3 : l3 < n
  hsz : h.objs.size = n + 6
  hz : IsZ3 h (n + 5) (n + 3) (n + 4) .none (.bool false)
  hTI : IsT3 h (n + 3) (.ref n) (.ref (n + 1)) (.ref (n + 2))
  hTO : IsT3 h (n + 4) .none .none .none
  h1 : h.IsListIter n l1 0
  h2 : h.IsListIter (n + 1) l2 0
  h3 : h.IsListIter (n + 2) l3 0
  hl1 : h.IsList l1 xs.toArray
  hl2 : h.IsList l2 ys.toArray
  hl3 : h.IsList l3 zs.toArray
  hL : @LT.lt Nat _ L n
  hN : ∀ p ∈ news, @LT.lt Nat _ p.1 n
  h0 : ∀ (b : Nat) o, h₀.get? b = some o → b < n
def TripAt (trip : List (Int × Int × Int)) (its : Array Value) (news : List (Addr × Obj)) : Prop :=
  its.size = trip.length ∧ ∀ (i : Nat) (a : Int × Int × Int), trip[i]? = some a → ∃ (t : Addr) (ot : Obj) (nt : Nat) (tu tv tk : Tok), its[i]? = some (Value.ref t) ∧ (t, ot) ∈ news ∧ ot.cls = .type "tuple" ∧ ot.data = .seq #[.int a.1 tu, .int a.2.1 tv, .int a.2.2 tk] nt
theorem TripAt.mono {trip : List (Int × Int × Int)} {its : Array Value} {news news' : List (Addr × Obj)} (h : TripAt trip its news) (hs : ∀ p ∈ news, p ∈ news') : TripAt trip its news' :=
  ⟨h.1, fun i a e => let ⟨t, ot, nt, tu, tv, tk, e1, e2, r⟩ := h.2 i a e; ⟨t, ot, nt, tu, tv, tk, e1, hs _ e2, r⟩⟩
section
variable {prog : Program} {w : World} {A : Around} {E : Value → Shared → Prop} {s : Shared} {h₀ : Heap} {L : Addr} {m : Str → Option Value} {news : List (Addr × Obj)} {Q : Value → Shared → Prop}
theorem zip3_K {l1 l2 l3 : Addr} {xs ys zs : List Value} {k1 k2 k3 : Nat} (F : Fr h₀ L s.heap m) (N : News h₀ L s.heap news) (m1 : (l1, W.listOf xs.toArray k1) ∈ news) (m2 : (l2, W.listOf ys.toArray k2) ∈ news) (m3 : (l3, W.listOf zs.toArray k3) ∈ news)
    (h : ∀ n h', ZFresh n l1 l2 l3 xs ys zs h₀ L news h' → Fr h₀ L h' m → News h₀ L h' news → Q (.ref (n + 5)) { s with heap := h' }) :
    wpAny (model prog w) A (call (.type "zip") [.ref l1, .ref l2, .ref l3]) Q E s := by
  have L1 : s.heap.IsList l1 xs.toArray := ⟨_, (N _ m1).1, rfl, k1, rfl⟩
  have L2 : s.heap.IsList l2 ys.toArray := ⟨_, (N _ m2).1, rfl, k2, rfl⟩
  have L3 : s.heap.IsList l3 zs.toArray := ⟨_, (N _ m3).1, rfl, k3, rfl⟩
  refine call_zip_3 rfl L1 L2 L3 fun h' a1 a2 a3 a4 a5 a6 a7 hk => ?_
  refine h _ h' ⟨Heap.lt_size (N _ m1).1, Heap.lt_size (N _ m2).1, Heap.lt_size (N _ m3).1, a7, a1, a2, a3, a4, a5, a6, L1.at fun o e => hk _ o e, L2.at fun o e => hk _ o e, L3.at fun o e => hk _ o e, F.ns.lt, fun p hp => Heap.lt_size (N p hp).1, fun b o e => Heap.lt_size (F.keep b o e)⟩ (F.keeps hk) fun p hp => ⟨hk _ _ (N p hp).1, (N p hp).2⟩
def tupsOf (h : Heap) (acc : Array Value) : List (Addr × Obj) := acc.toList.filterMap fun v => match v with | .ref t => (h.get? t).map fun o => (t, o) | _ => none
theorem list3_K {n : Nat} {l1 l2 l3 : Nat} {xs ys zs : List Value} {us vs ks : List Int} (hh : A.handled = none) (Z : ZFresh n l1 l2 l3 xs ys zs h₀ L news s.heap) (F : Fr h₀ L s.heap m) (N : News h₀ L s.heap news)
    (hu : IntsAre xs us) (hv : IntsAre ys vs) (hk : IntsAre zs ks) (e2 : vs.length = us.length) (e3 : ks.length = us.length) (h8 : us.length ≤ 8) (hpos : 0 < us.length)
    (h : ∀ D its k tups h', Fr h₀ L h' m → News h₀ L h' ((D, W.listOf its k) :: (tups ++ news)) → TripAt (us.zip (vs.zip ks)) its (tups ++ news) → Q (.ref D) { s with heap := h' }) :
    wpAny (model prog w) A (call (.type "list") [.ref (n + 5)]) Q E s := by
  have s1 : xs.toArray.size = us.length := by rw [List.size_toArray, hu.length]
  have s2 : ys.toArray.size = us.length := by rw [List.size_toArray, hv.length, e2]
  have s3 : zs.toArray.size = us.length := by rw [List.size_toArray, hk.length, e3]
  refine list_zip3 (h₀ := s.heap) hh Z.b1 Z.b2 Z.b3 (by rw [s1, s2]) (by rw [s1, s3]) (by rw [s1]; exact h8) (by rw [s1]; exact hpos) Z.hsz Z.hz Z.hTI Z.hTO Z.h1 Z.h2 Z.h3 Z.hl1 Z.hl2 Z.hl3 (fun b o _ e => e) fun h' hZ => ?_
  obtain ⟨h'', acc, V, hk'⟩ := hZ
  obtain ⟨cc, hcc⟩ := V.lst
  have old : ∀ (b : Nat) o, b < n → s.heap.get? b = some o → h'.get? b = some o := fun b o hb e => hk' b o (by omega) (by omega) (V.old b o hb e)
  have none0 : ∀ b : Nat, n ≤ b → h₀.get? b = none := fun b hb => by
    cases e : h₀.get? b with
    | none => rfl
    | some o => exact absurd (Z.h0 b o e) (Nat.not_lt.mpr hb)
  have neL : ∀ b : Nat, n ≤ b → @Ne Addr b L := fun b hb q => by
    have : @LT.lt Nat _ L n := Z.hL
    rw [← q] at this
    exact absurd this (Nat.not_lt.mpr hb)
  have acc_t : ∀ (j : Nat), j < us.length → ∃ t : Nat, ∃ x y c, n + 7 ≤ t ∧ acc[j]? = some (.ref t) ∧ IsT3 h'' t x y c ∧ xs[j]? = some x ∧ ys[j]? = some y ∧ zs[j]? = some c := fun j hj => by
    have q1 : j < xs.length := by rw [hu.length]; exact hj
    have q2 : j < ys.length := by rw [hv.length]; omega
    have q3 : j < zs.length := by rw [hk.length]; omega
    have hx : xs[j]? = some xs[j] := List.getElem?_eq_getElem q1
    have hy : ys[j]? = some ys[j] := List.getElem?_eq_getElem q2
    have hc : zs[j]? = some zs[j] := List.getElem?_eq_getElem q3
    obtain ⟨t, ht, ha, hT⟩ := V.tup j _ _ _ (by rw [s1]; exact hj) ((List.getElem?_toArray ..).trans hx) ((List.getElem?_toArray ..).trans hy) ((List.getElem?_toArray ..).trans hc)
    exact ⟨t, _, _, _, ht, ha, hT, hx, hy, hc⟩
  have hasz : acc.size = us.length := by rw [V.size, s1]
  have tup_mem : ∀ p ∈ tupsOf h'' acc, n + 7 ≤ (p.1 : Nat) ∧ h''.get? p.1 = some p.2 := fun p hp => by
    obtain ⟨v, hv', e⟩ := List.mem_filterMap.mp hp
    obtain ⟨j, hj, rfl⟩ := List.mem_iff_getElem.mp hv'
    have hj' : j < us.length := by rw [← hasz]; simpa using hj
    obtain ⟨t, x, y, c, ht, ha, hT, _⟩ := acc_t j hj'
    have e1 : acc.toList[j] = .ref t := by
      have := (List.getElem?_eq_getElem hj).symm
      rw [Array.getElem?_toList, ha] at this
      exact Option.some.inj this
    rw [e1] at e
    dsimp only at e
    rw [hT] at e
    simp only [Option.map_some, Option.some.injEq] at e
    subst e
    exact ⟨ht, hT⟩
  refine h (n + 6 : Nat) acc cc (tupsOf h'' acc) h' ⟨F.ns.at' fun o e => old L o Z.hL e, fun b o e => old b o (Z.h0 b o e) (F.keep b o e), F.above⟩ (fun p hp => ?_) ⟨?_, fun i a hi => ?_⟩
  · rcases List.mem_cons.mp hp with rfl | hp
    · exact ⟨hk' (n + 6) _ (by omega) (by omega) hcc, neL _ (by show n ≤ n + 6; omega), none0 (n + 6) (by omega)⟩
    · rcases List.mem_append.mp hp with hp | hp
      · obtain ⟨h1, h2⟩ := tup_mem p hp
        exact ⟨hk' p.1 _ (by omega) (by omega) h2, neL p.1 (by omega), none0 p.1 (by omega)⟩
      · exact ⟨old p.1 _ (Z.hN p hp) (N p hp).1, (N p hp).2⟩
  · rw [hasz]; simp [e2, e3]
  · have hi' : i < us.length := by
      have := (List.getElem?_eq_some_iff.mp hi).1
      simp [e2, e3] at this; exact this
    obtain ⟨t, x, y, c, ht, ha, hT, hx, hy, hc⟩ := acc_t i hi'
    have r2 : i < vs.length := by omega
    have r3 : i < ks.length := by omega
    have ea : a = (us[i], vs[i], ks[i]) := by
      obtain ⟨h1, h2⟩ := List.getElem?_eq_some_iff.mp hi
      rw [← h2]; simp
    obtain ⟨tu, e4⟩ := hu.get i us[i] (List.getElem?_eq_getElem hi')
    obtain ⟨tv, e5⟩ := hv.get i vs[i] (List.getElem?_eq_getElem (by omega))
    obtain ⟨tk, e6⟩ := hk.get i ks[i] (List.getElem?_eq_getElem (by omega))
    rw [hx] at e4; rw [hy] at e5; rw [hc] at e6
    cases e4; cases e5; cases e6
    subst ea
    refine ⟨t, { cls := .type "tuple", data := .seq #[.int us[i] tu, .int vs[i] tv, .int ks[i] tk] }, 0, tu, tv, tk, ha, List.mem_append_left _ (List.mem_filterMap.mpr ⟨.ref t, ?_, ?_⟩), rfl, rfl⟩
    · have := Array.mem_of_getElem? ha
      simpa using this
    · dsimp only
      rw [hT]; rfl
end
end Mine
end
section
open PySem PySem.W PyProof.Rows PyProof.Rows.LCg
set_option maxRecDepth 100000
set_option maxHeartbeats 8000000
namespace Mine
section
variable {prog : Program} {w : World} {A : Around} {E : Value → Shared → Prop} {s : Shared} {h₀ : Heap} {L : Addr} {m : Str → Option Value} {news : List (Addr × Obj)} {Q : Value → Shared → Prop} {env : Env}
theorem list3_L {n : Nat} {l1 l2 l3 : Nat} {xs ys zs : List Value} {us vs ks : List Int} {nws : List (Addr × Obj)} (Z : ZFresh n l1 l2 l3 xs ys zs h₀ L nws s.heap) (hh : A.handled = none) (F : Fr h₀ L s.heap m) (N : News h₀ L s.heap nws)
    (hu : IntsAre xs us) (hv : IntsAre ys vs) (hk : IntsAre zs ks) (e2 : vs.length = us.length) (e3 : ks.length = us.length) (h8 : us.length ≤ 8) (hpos : 0 < us.length)
    (h : ∀ D its k tups h', TripAt (us.zip (vs.zip ks)) its tups → Fr h₀ L h' m → News h₀ L h' ((D, W.listOf its k) :: (nws ++ tups)) → Q (.ref D) { s with heap := h' }) :
    wpAny (model prog w) A (call (.type "list") [.ref (n + 5)]) Q E s :=
  list3_K hh Z F N hu hv hk e2 e3 h8 hpos fun D its k tups h' F' N' T' => h D its k (tups ++ nws) h' T' F' fun p hp => N' p (by
    rcases List.mem_cons.mp hp with rfl | hp
    · exact List.mem_cons_self ..
    · rcases List.mem_append.mp hp with hp | hp
      · exact List.mem_cons_of_mem _ (List.mem_append_right _ hp)
      · exact List.mem_cons_of_mem _ hp)
theorem comp_trip' {elt iter : Expr} {x y z : Str} {px py pz pt : Pos} {kt : Nat} {scope : Scope} {pos : Pos} {trip : List (Int × Int × Int)} {its : Array Value} {ax : Addr} {kn : Nat} {tups : List (Addr × Obj)}
    (g : Int × Int × Int → Int)
    (hiter : wpAny (model prog w) A (eval iter env) (fun xv s₁ => xv = .ref ax ∧ s₁ = s) E s)
    (F : Fr h₀ L s.heap m) (N : News h₀ L s.heap news) (hm : (ax, W.listOf its kn) ∈ news)
    (hT : TripAt trip its tups) (hsub : ∀ p ∈ tups, p ∈ news) (hl8 : trip.length ≤ 8)
    (hh : A.handled = none)
    (hQ : ∀ (D : Addr) (h' : Heap) (tk : Nat) (ys : List Value), IntsAre ys (trip.map g) → Fr h₀ L h' m → News h₀ L h' ((D, W.listOf ys.toArray ys.length) :: news) → Q (.ref D) { s with heap := h', toks := tk })
    (hfree : (scope.names.all fun x => x.2 != .free && x.2 != .cell) = true) (hkind : scope.kind = .function) (hnames : (scope.names.all fun x => scope.names.lookup x.1 == some .local) = true)
    (hx : scope.names.lookup x = some .local) (hy : scope.names.lookup y = some .local) (hz : scope.names.lookup z = some .local) (hxy : x ≠ y) (hxz : x ≠ z) (hyz : y ≠ z)
    (hs : ∀ x, foldedSetIterable iter env x = pure x)
    (helt : ∀ (a : Int × Int × Int) (C : Addr) (s' : Shared) (m₃ : Str → Option Value) (E' : Value → Shared → Prop) (tu tv tk : Tok), a ∈ trip → s'.heap.Ns C m₃ → m₃ x = some (.int a.1 tu) → m₃ y = some (.int a.2.1 tv) → m₃ z = some (.int a.2.2 tk) →
      wpAny (model prog w) A (eval elt (compEnv scope C env)) (fun r s'' => ∃ t tk, r = .int (g a) t ∧ s'' = { s' with toks := tk }) E' s') :
    wpAny (model prog w) A (eval (.ListComp elt [⟨.Tuple [.Name x px, .Name y py, .Name z pz] kt pt, iter, [], 0⟩] scope pos) env) Q E s :=
  comp_trip g (hT.mono hsub).2 hT.1 hl8 hh F N hm hiter (fun D h' tk ys F' N' hI => hQ D h' tk ys hI F' N') hfree hkind hnames hx hy hz hxy hxz hyz hs helt
theorem comp_pow' {iter : Expr} {x : Str} {k : Nat} {p1 p2 p3 px : Pos} {scope : Scope} {pos : Pos} {ws : List Int} {us : List Value} {ax : Addr} {kn : Nat}
    (hiter : wpAny (model prog w) A (eval iter env) (fun xv s₁ => xv = .ref ax ∧ s₁ = s) E s)
    (F : Fr h₀ L s.heap m) (N : News h₀ L s.heap news) (hm : (ax, W.listOf us.toArray kn) ∈ news)
    (hI : IntsAre us ws) (hw : ∀ n ∈ ws, 1 ≤ n ∧ n ≤ 6) (hl8 : ws.length ≤ 8) (hh : A.handled = none)
    (hQ : ∀ (D : Addr) (h' : Heap) (tk : Nat) (ys : List Value), IntsAre ys (ws.map fun n => 2 ^ n.toNat) → Fr h₀ L h' m → News h₀ L h' ((D, W.listOf ys.toArray ys.length) :: news) → Q (.ref D) { s with heap := h', toks := tk })
    (hfree : (scope.names.all fun x => x.2 != .free && x.2 != .cell) = true) (hkind : scope.kind = .function) (hnames : (scope.names.all fun x => scope.names.lookup x.1 == some .local) = true)
    (hx : scope.names.lookup x = some .local) (hd : (x == ("__debug__" : Str)) = false)
    (hs : ∀ x, foldedSetIterable iter env x = pure x) :
    wpAny (model prog w) A (eval (.ListComp (.BinOp (.Constant (.int 2) k p1) .Pow (.Name x p2) p3) [⟨.Name x px, iter, [], 0⟩] scope pos) env) Q E s :=
  comp_pow hI hw hl8 hh F N hm hiter (fun D h' tk ys F' N' hI => hQ D h' tk ys hI F' N') hfree hkind hnames hx hd hs
end
abbrev tripOf (x y : Int) (ws : List Int) : List (Int × Int × Int) := (fieldsOf x ws).zip ((fieldsOf y ws).zip (ws.map fun n => 2 ^ n.toNat))
theorem tripOf_pos {x y : Int} {ws : List Int} {a : Int × Int × Int} (h : a ∈ tripOf x y ws) : 0 < a.2.2 := by
  have h1 := (List.of_mem_zip h).2
  have h2 := (List.of_mem_zip h1).2
  obtain ⟨n, _, e⟩ := List.mem_map.mp h2
  rw [← e]; exact kbt_pos _
theorem tripOf_length {x y : Int} {ws : List Int} : (tripOf x y ws).length = ws.length := by
  simp [tripOf, fieldsOf_length]
end Mine
namespace Mine
theorem tripOf_mem : ∀ {ws : List Int} {x y : Int} {a : Int × Int × Int}, (∀ n ∈ ws, 1 ≤ n ∧ n ≤ 6) → a ∈ tripOf x y ws → (0 ≤ a.1 ∧ a.1 < a.2.2) ∧ (0 ≤ a.2.1 ∧ a.2.1 < a.2.2) ∧ a.2.2 ≤ 64
  | [], _, _, _, _, h => by simp [tripOf, fieldsOf] at h
  | n :: ws, x, y, a, hw, h => by
    simp only [tripOf, fieldsOf, List.map_cons, List.zip_cons_cons] at h
    rcases List.mem_cons.mp h with rfl | h
    · have hp : (0 : Int) < 2 ^ n.toNat := kbt_pos _
      have h2 := hw n (List.mem_cons_self ..)
      have h3 : (2 : Int) ^ n.toNat ≤ 64 := by
        have : n.toNat = 1 ∨ n.toNat = 2 ∨ n.toNat = 3 ∨ n.toNat = 4 ∨ n.toNat = 5 ∨ n.toNat = 6 := by omega
        rcases this with h | h | h | h | h | h <;> rw [h] <;> decide
      exact ⟨⟨Int.emod_nonneg _ (by omega), Int.emod_lt_of_pos _ hp⟩, ⟨Int.emod_nonneg _ (by omega), Int.emod_lt_of_pos _ hp⟩, h3⟩
    · exact tripOf_mem (fun k hk => hw k (List.mem_cons_of_mem _ hk)) h
abbrev gAdd (a : Int × Int × Int) : Int := (a.1 + a.2.1) % a.2.2
abbrev gSub (a : Int × Int × Int) : Int := (a.1 - a.2.1) % a.2.2
abbrev gLess (a : Int × Int × Int) : Int := if a.1 < a.2.1 then a.2.2 / 2 else 0
abbrev gMean (a : Int × Int × Int) : Int := (a.1 + a.2.1) / 2
theorem bd_of {g : Int × Int × Int → Int} (hg : ∀ a : Int × Int × Int, (0 ≤ a.1 ∧ a.1 < a.2.2) → (0 ≤ a.2.1 ∧ a.2.1 < a.2.2) → a.2.2 ≤ 64 → 0 ≤ g a ∧ g a < 64) {x y : Int} {ws : List Int} (hw : ∀ n ∈ ws, 1 ≤ n ∧ n ≤ 6) :
    ∀ f ∈ (tripOf x y ws).map g, 0 ≤ f ∧ f < 64 := fun f hf => by
  obtain ⟨a, ha, rfl⟩ := List.mem_map.mp hf
  obtain ⟨h1, h2, h3⟩ := tripOf_mem hw ha
  exact hg a h1 h2 h3
theorem bd_add {x y : Int} {ws : List Int} (hw : ∀ n ∈ ws, 1 ≤ n ∧ n ≤ 6) : ∀ f ∈ (tripOf x y ws).map gAdd, 0 ≤ f ∧ f < 64 :=
  bd_of (fun a h1 h2 h3 => by
    have p1 := Int.emod_nonneg (a.1 + a.2.1) (show a.2.2 ≠ 0 by omega)
    have p2 := Int.emod_lt_of_pos (a.1 + a.2.1) (show 0 < a.2.2 by omega)
    show 0 ≤ (a.1 + a.2.1) % a.2.2 ∧ (a.1 + a.2.1) % a.2.2 < 64
    omega) hw
theorem bd_sub {x y : Int} {ws : List Int} (hw : ∀ n ∈ ws, 1 ≤ n ∧ n ≤ 6) : ∀ f ∈ (tripOf x y ws).map gSub, 0 ≤ f ∧ f < 64 :=
  bd_of (fun a h1 h2 h3 => by
    have p1 := Int.emod_nonneg (a.1 - a.2.1) (show a.2.2 ≠ 0 by omega)
    have p2 := Int.emod_lt_of_pos (a.1 - a.2.1) (show 0 < a.2.2 by omega)
    show 0 ≤ (a.1 - a.2.1) % a.2.2 ∧ (a.1 - a.2.1) % a.2.2 < 64
    omega) hw
theorem bd_less {x y : Int} {ws : List Int} (hw : ∀ n ∈ ws, 1 ≤ n ∧ n ≤ 6) : ∀ f ∈ (tripOf x y ws).map gLess, 0 ≤ f ∧ f < 64 :=
  bd_of (fun a h1 h2 h3 => by
    show 0 ≤ (if a.1 < a.2.1 then a.2.2 / 2 else 0) ∧ (if a.1 < a.2.1 then a.2.2 / 2 else 0) < 64
    split <;> omega) hw
theorem bd_mean {x y : Int} {ws : List Int} (hw : ∀ n ∈ ws, 1 ≤ n ∧ n ≤ 6) : ∀ f ∈ (tripOf x y ws).map gMean, 0 ≤ f ∧ f < 64 :=
  bd_of (fun a h1 h2 h3 => by
    show 0 ≤ (a.1 + a.2.1) / 2 ∧ (a.1 + a.2.1) / 2 < 64
    omega) hw
theorem len_trip {x y : Int} {ws : List Int} {g : Int × Int × Int → Int} : ((tripOf x y ws).map g).length = ws.length := by
  rw [List.length_map, tripOf_length]
end Mine
end
section
open PySem PySem.W PyProof.Rows
set_option maxRecDepth 100000
set_option maxHeartbeats 8000000
namespace Mine
local macro_rules | `(tactic| walk_at "call ref") => `(tactic| (k_here; k_dflt (first
  | ((with_reducible show wpAny _ _ (call (Value.ref 28) _) _ _ _); refine' cb_use (c_and _ _ _ _) ?k1 ?k2 ?k3 ?k4 ?k5 ?kK ?kp ?kd ?ku ?_; (case k1 => k_asm); (case k2 => k_asm); (case k3 => k_asm); (case k4 => k_asm); (case k5 => k_asm); (case kK => first | exact rfl | assumption); (case kp => trivial); (case kd => ktr_room); (case ku => ktr_units); intro t9 h9 tk9 F9 N9; (try dsimp only); (try k_sweep))
  | ((with_reducible show wpAny _ _ (call (Value.ref 70) _) _ _ _); refine' cb_use (c_xor _ _ _ _) ?k1 ?k2 ?k3 ?k4 ?k5 ?kK ?kp ?kd ?ku ?_; (case k1 => k_asm); (case k2 => k_asm); (case k3 => k_asm); (case k4 => k_asm); (case k5 => k_asm); (case kK => first | exact rfl | assumption); (case kp => trivial); (case kd => ktr_room); (case ku => ktr_units); intro t9 h9 tk9 F9 N9; (try dsimp only); (try k_sweep))
  | ((with_reducible show wpAny _ _ (call (Value.ref 35) _) _ _ _); refine' cb_use (c_inv _ _) ?k1 ?k2 ?k3 ?k4 ?k5 ?kK ?kp ?kd ?ku ?_; (case k1 => k_asm); (case k2 => k_asm); (case k3 => k_asm); (case k4 => k_asm); (case k5 => k_asm); (case kK => first | exact rfl | assumption); (case kp => trivial); (case kd => ktr_room); (case ku => ktr_units); intro t9 h9 tk9 F9 N9; (try dsimp only); (try k_sweep))
  | ((with_reducible show wpAny _ _ (call (Value.ref 21) _) _ _ _); refine' cb_use (c_add _ _ _ _) ?k1 ?k2 ?k3 ?k4 ?k5 ?kK ?kp ?kd ?ku ?_; (case k1 => k_asm); (case k2 => k_asm); (case k3 => k_asm); (case k4 => k_asm); (case k5 => k_asm); (case kK => first | exact rfl | assumption); (case kp => trivial); (case kd => ktr_room); (case ku => ktr_units); intro t9 h9 tk9 F9 N9; (try dsimp only); (try k_sweep))
  | ((with_reducible show wpAny _ _ (call (Value.ref 49) _) _ _ _); refine' cb_use (c_or _ _ _ _) ?k1 ?k2 ?k3 ?k4 ?k5 ?kK ?kp ?kd ?ku ?_; (case k1 => k_asm); (case k2 => k_asm); (case k3 => k_asm); (case k4 => k_asm); (case k5 => k_asm); (case kK => first | exact rfl | assumption); (case kp => trivial); (case kd => ktr_room); (case ku => ktr_units); intro t9 h9 tk9 F9 N9; (try dsimp only); (try k_sweep))
  | ((with_reducible show wpAny _ _ (call (Value.ref 63) _) _ _ _); refine' cb_use (c_sub _ _ _ _) ?k1 ?k2 ?k3 ?k4 ?k5 ?kK ?kp ?kd ?ku ?_; (case k1 => k_asm); (case k2 => k_asm); (case k3 => k_asm); (case k4 => k_asm); (case k5 => k_asm); (case kK => first | exact rfl | assumption); (case kp => trivial); (case kd => ktr_room); (case ku => ktr_units); intro t9 h9 tk9 F9 N9; (try dsimp only); (try k_sweep))
  | ((with_reducible show wpAny _ _ (call (Value.ref 56) _) _ _ _); refine' cb_use (c_rshift _ _ _) ?k1 ?k2 ?k3 ?k4 ?k5 ?kK ?kp ?kd ?ku ?_; (case k1 => k_asm); (case k2 => k_asm); (case k3 => k_asm); (case k4 => k_asm); (case k5 => k_asm); (case kK => first | exact rfl | assumption); (case kp => trivial); (case kd => ktr_room); (case ku => ktr_units); intro t9 h9 tk9 F9 N9; (try dsimp only); (try k_sweep)))))
local macro_rules | `(tactic| walk_at "call ref") => `(tactic| (k_here; k_dflt (first
  | ((with_reducible show wpAny _ _ (call (Value.ref 91) _) _ _ _); refine' use_fields ?i1 ?i2 ?i3 ?k1 ?k2 ?k3 ?k4 ?km ?k5 ?kK ?kd ?ku ?_; (case k1 => k_asm); (case k2 => k_asm); (case k3 => k_asm); (case k4 => k_asm); (case km => k_mem); (case k5 => k_asm); (case kK => first | exact rfl | assumption); (case kd => ktr_room); (case ku => ktr_units); (case i1 => assumption); (case i2 => assumption); (case i3 => assumption); intro r9 vs9 k9 h9 tk9 hI9 F9 N9; (try dsimp only); (try k_sweep))
  | ((with_reducible show wpAny _ _ (call (Value.ref 98) _) _ _ _); refine' use_laid ?i0 ?i1 ?i2 ?i3 ?i4 ?i5 ?k1 ?k2 ?k3 ?k4 ?kf ?km ?k5 ?kK ?kd ?ku ?_; (case k1 => k_asm); (case k2 => k_asm); (case k3 => k_asm); (case k4 => k_asm); (case kf => k_mem); (case km => k_mem); (case k5 => k_asm); (case kK => first | exact rfl | assumption); (case kd => ktr_room); (case ku => ktr_units); (case i0 => assumption); (case i1 => assumption); (case i2 => assumption); (case i3 => assumption); (case i4 => exact len_trip); (case i5 => first | exact bd_add (by assumption) | exact bd_sub (by assumption) | exact bd_less (by assumption) | exact bd_mean (by assumption)); intro t9 h9 tk9 F9 N9; (try dsimp only); (try k_sweep)))))
local macro_rules | `(tactic| walk_at "call type:zip") => `(tactic| (k_here; k_dflt (refine' zip3_K ?k1 ?k2 ?m1 ?m2 ?m3 ?_; (case k1 => k_asm); (case k2 => k_asm); (case m1 => k_mem); (case m2 => k_mem); (case m3 => k_mem)); intro n9 h9 Z9 F9 N9; (try dsimp only); (try k_sweep)))
local macro_rules | `(tactic| walk_at "call type:list") => `(tactic| (k_here; k_dflt (refine' list3_L ?kz ?kh ?k1 ?k2 ?u1 ?u2 ?u3 ?e2 ?e3 ?e8 ?e0 ?_; (case kz => assumption); (case kh => exact rfl); (case k1 => k_asm); (case k2 => k_asm); (case u1 => assumption); (case u2 => assumption); (case u3 => assumption); (case e2 => simp only [fieldsOf_length]); (case e3 => simp only [fieldsOf_length, List.length_map]); (case e8 => simp only [fieldsOf_length]; assumption); (case e0 => simp only [fieldsOf_length]; assumption)); intro D9 its9 k9 tups9 h9 T9 F9 N9; (try simp only [List.cons_append] at N9); (try dsimp only); (try k_sweep)))
local macro_rules | `(tactic| walk_at "eval ListComp") => `(tactic| (k_here; k_dflt (first
  | ((with_reducible show wpAny _ _ (eval (Expr.ListComp (Expr.BinOp (Expr.Constant _ _ _) _ _ _) _ _ _) _) _ _ _); refine' comp_pow' ?kit ?k1 ?k2 ?km ?i1 ?i2 ?i3 ?kh ?_ ?c1 ?c2 ?c3 ?c4 ?c5 ?c6; (case kit => (k_dflt (refine' ld ?l1 ?l2 ?_; (case l1 => k_asm); (case l2 => exact rfl)); exact ⟨rfl, rfl⟩)); (case k1 => k_asm); (case k2 => k_asm); (case km => k_mem); (case i1 => assumption); (case i2 => assumption); (case i3 => assumption); (case kh => exact rfl); (case c1 => decide); (case c2 => exact rfl); (case c3 => decide); (case c4 => decide); (case c5 => decide); (case c6 => (intro _; rfl)); intro D9 h9 tk9 ys9 hI9 F9 N9; (try dsimp only); (try k_sweep))
  | ((with_reducible show wpAny _ _ (eval (Expr.ListComp (Expr.BinOp (Expr.BinOp _ Operator.Add _ _) Operator.Mod _ _) _ _ _) _) _ _ _); refine' comp_trip' gAdd ?kit ?k1 ?k2 ?km ?kT ?ks ?k8 ?kh ?_ ?c1 ?c2 ?c3 ?c4 ?c5 ?c6 ?c7 ?c8 ?c9 ?c0 ?ce; (case kit => (k_dflt (refine' ld ?l1 ?l2 ?_; (case l1 => k_asm); (case l2 => exact rfl)); exact ⟨rfl, rfl⟩)); (case k1 => k_asm); (case k2 => k_asm); (case km => k_mem); (case kT => assumption); (case ks => (intro p9 hp9; (repeat (first | exact List.mem_append_right _ hp9 | refine List.mem_cons_of_mem _ ?_)))); (case k8 => (rw [tripOf_length]; assumption)); (case kh => exact rfl); (case c1 => decide); (case c2 => exact rfl); (case c3 => decide); (case c4 => decide); (case c5 => decide); (case c6 => decide); (case c7 => decide); (case c8 => decide); (case c9 => decide); (case c0 => (intro _; rfl)); (case ce => (intro a C s' m₃ E' tu tv tk ha hn h1 h2 h3; exact elt_add rfl rfl rfl rfl (by decide) (by decide) (by decide) (tripOf_pos ha) hn h1 h2 h3)); intro D9 h9 tk9 ys9 hI9 F9 N9; (try dsimp only); (try k_sweep))
  | ((with_reducible show wpAny _ _ (eval (Expr.ListComp (Expr.BinOp (Expr.BinOp _ Operator.Sub _ _) Operator.Mod _ _) _ _ _) _) _ _ _); refine' comp_trip' gSub ?kit ?k1 ?k2 ?km ?kT ?ks ?k8 ?kh ?_ ?c1 ?c2 ?c3 ?c4 ?c5 ?c6 ?c7 ?c8 ?c9 ?c0 ?ce; (case kit => (k_dflt (refine' ld ?l1 ?l2 ?_; (case l1 => k_asm); (case l2 => exact rfl)); exact ⟨rfl, rfl⟩)); (case k1 => k_asm); (case k2 => k_asm); (case km => k_mem); (case kT => assumption); (case ks => (intro p9 hp9; (repeat (first | exact List.mem_append_right _ hp9 | refine List.mem_cons_of_mem _ ?_)))); (case k8 => (rw [tripOf_length]; assumption)); (case kh => exact rfl); (case c1 => decide); (case c2 => exact rfl); (case c3 => decide); (case c4 => decide); (case c5 => decide); (case c6 => decide); (case c7 => decide); (case c8 => decide); (case c9 => decide); (case c0 => (intro _; rfl)); (case ce => (intro a C s' m₃ E' tu tv tk ha hn h1 h2 h3; exact elt_sub rfl rfl rfl rfl (by decide) (by decide) (by decide) (tripOf_pos ha) hn h1 h2 h3)); intro D9 h9 tk9 ys9 hI9 F9 N9; (try dsimp only); (try k_sweep))
  | ((with_reducible show wpAny _ _ (eval (Expr.ListComp (Expr.IfExp _ _ _ _) _ _ _) _) _ _ _); refine' comp_trip' gLess ?kit ?k1 ?k2 ?km ?kT ?ks ?k8 ?kh ?_ ?c1 ?c2 ?c3 ?c4 ?c5 ?c6 ?c7 ?c8 ?c9 ?c0 ?ce; (case kit => (k_dflt (refine' ld ?l1 ?l2 ?_; (case l1 => k_asm); (case l2 => exact rfl)); exact ⟨rfl, rfl⟩)); (case k1 => k_asm); (case k2 => k_asm); (case km => k_mem); (case kT => assumption); (case ks => (intro p9 hp9; (repeat (first | exact List.mem_append_right _ hp9 | refine List.mem_cons_of_mem _ ?_)))); (case k8 => (rw [tripOf_length]; assumption)); (case kh => exact rfl); (case c1 => decide); (case c2 => exact rfl); (case c3 => decide); (case c4 => decide); (case c5 => decide); (case c6 => decide); (case c7 => decide); (case c8 => decide); (case c9 => decide); (case c0 => (intro _; rfl)); (case ce => (intro a C s' m₃ E' tu tv tk ha hn h1 h2 h3; exact elt_less rfl rfl rfl rfl (by decide) (by decide) (by decide) hn h1 h2 h3)); intro D9 h9 tk9 ys9 hI9 F9 N9; (try dsimp only); (try k_sweep))
  | ((with_reducible show wpAny _ _ (eval (Expr.ListComp (Expr.BinOp (Expr.BinOp _ Operator.Add _ _) Operator.FloorDiv _ _) _ _ _) _) _ _ _); refine' comp_trip' gMean ?kit ?k1 ?k2 ?km ?kT ?ks ?k8 ?kh ?_ ?c1 ?c2 ?c3 ?c4 ?c5 ?c6 ?c7 ?c8 ?c9 ?c0 ?ce; (case kit => (k_dflt (refine' ld ?l1 ?l2 ?_; (case l1 => k_asm); (case l2 => exact rfl)); exact ⟨rfl, rfl⟩)); (case k1 => k_asm); (case k2 => k_asm); (case km => k_mem); (case kT => assumption); (case ks => (intro p9 hp9; (repeat (first | exact List.mem_append_right _ hp9 | refine List.mem_cons_of_mem _ ?_)))); (case k8 => (rw [tripOf_length]; assumption)); (case kh => exact rfl); (case c1 => decide); (case c2 => exact rfl); (case c3 => decide); (case c4 => decide); (case c5 => decide); (case c6 => decide); (case c7 => decide); (case c8 => decide); (case c9 => decide); (case c0 => (intro _; rfl)); (case ce => (intro a C s' m₃ E' tu tv tk ha hn h1 h2 h3; exact elt_mean rfl rfl rfl (by decide) (by decide) hn h1 h2)); intro D9 h9 tk9 ys9 hI9 F9 N9; (try dsimp only); (try k_sweep)))))
section
variable {w : World} {mean : ExcName → Option Value} {mg mb : Str → Option Value} {news : List (Addr × Obj)}
abbrev takenE (x y full rest tops : Int) : Int := Builtin.bitXor (Builtin.bitOr (Builtin.bitAnd x full) tops - Builtin.bitAnd y rest) (Builtin.bitAnd (Builtin.bitXor x (Builtin.bitNot y)) tops)
theorem turn1 {dp un : Nat} {gd : Option (List Code)} {a : Addr} {ccd : Value} {outer : List Env} {A₀ : Around} {base h₀ : Heap} {L : Addr} {m : Str → Option Value} {s : Shared} {Q : Flow → Shared → Prop} {E : Value → Shared → Prop}
    (x y full rest tops lows : Int) (tx ty tf tr tt tl : Tok) (wl : Addr) (us : List Value) (ws : List Int) (nn : Nat) (hI : IntsAre us ws) (hw : ∀ n ∈ ws, 1 ≤ n ∧ n ≤ 6) (hl : ws.length ≤ 8) (hl0 : 0 < ws.length)
    (B : Below A₀ base outer h₀)
    (F : Fr h₀ L s.heap (kstB m [(Str.ofString "x", .int x tx), (Str.ofString "y", .int y ty), (Str.ofString "widths", .ref wl), (Str.ofString "full", .int full tf), (Str.ofString "rest", .int rest tr), (Str.ofString "tops", .int tops tt), (Str.ofString "lows", .int lows tl)]))
    (N : News h₀ L s.heap ((wl, W.listOf us.toArray nn) :: news)) (T : Top hd.view_39 (looseW hd.view_39 []) mean mg mb h₀) (hdp : dp + 4 < recursionLimit) (hun : un + 40 < cLine)
    (hQ : ∀ (h' : Heap) (tk' : Nat) (m' : Str → Option Value), Fr h₀ L h' m' → News h₀ L h' ((wl, W.listOf us.toArray nn) :: news) → (∀ z, [Str.ofString "x", Str.ofString "y", Str.ofString "added", Str.ofString "taken", Str.ofString "marks", Str.ofString "means", Str.ofString "trios"].contains z = false → m' z = kstB m [(Str.ofString "widths", .ref wl), (Str.ofString "full", .int full tf), (Str.ofString "rest", .int rest tr), (Str.ofString "tops", .int tops tt), (Str.ofString "lows", .int lows tl)] z) → Q .next { s with heap := h', toks := tk' })
    (e1 : Builtin.bitXor (Builtin.bitAnd x rest + Builtin.bitAnd y rest) (Builtin.bitAnd (Builtin.bitXor x y) tops) = laidOf ((tripOf x y ws).map gAdd) ws)
    (e2 : takenE x y full rest tops = laidOf ((tripOf x y ws).map gSub) ws)
    (e3 : Builtin.bitAnd (Builtin.bitOr (Builtin.bitAnd (Builtin.bitNot x) y) (Builtin.bitAnd (Builtin.bitNot (Builtin.bitXor x y)) (takenE x y full rest tops))) tops = laidOf ((tripOf x y ws).map gLess) ws)
    (e4 : Builtin.bitAnd (Builtin.bitAnd x y) full + Builtin.bitAnd (Builtin.bitAnd (Builtin.bitXor x y) full) (Builtin.bitNot lows) / 2 = laidOf ((tripOf x y ws).map gMean) ws) : (hd.heap_39 w.params).In h₀ → 
    wpAny (model PySem.Challenge.rw_pg0033_01.row.prog w) (ktrTop dp un gd (Str.ofString "law") (defScope lawS) L a ccd [] outer) (execs turnB (envOf (Str.ofString "law") (defScope lawS) L a ccd)) Q E s := by
  k_with_none
  w_top off
  k_fill
  intro X
  conv in (occs := *) (defScope lawS) => all_goals whnf
  conv in turnB => whnf
  dsimp only [kstB] at F
  w_strict (
    k_steps
    all_goals (first
      | contradiction
      | (refine hQ _ _ _ (by assumption) (cb_drop (by assumption) ?_) ?_))
    · intro p hp
      rcases List.mem_cons.mp hp with rfl | hp
      · k_mem
      · (repeat (first | exact List.mem_append_left _ hp | refine List.mem_cons_of_mem _ ?_))
    · intro z hz
      simp only [List.contains_cons, Bool.or_eq_false_iff, beq_eq_false_iff_ne] at hz
      simp only [kstB, hz, if_false])
end
end Mine
end
section
open PySem PySem.W PyProof.Rows
set_option maxRecDepth 100000
set_option maxHeartbeats 8000000
namespace Mine
def storedT : List Str := [Str.ofString "x", Str.ofString "y", Str.ofString "added", Str.ofString "taken", Str.ofString "marks", Str.ofString "means", Str.ofString "trios"]
theorem kstB_fr {h₀ h : Heap} {L : Addr} {m₁ : Str → Option Value} {ps : List (Str × Value)} (h1 : ∀ p ∈ ps, m₁ p.1 = some p.2) (F : Fr h₀ L h m₁) : Fr h₀ L h (kstB m₁ ps) := by
  have e : kstB m₁ ps = m₁ := funext fun z => kstB_eq h1 fun _ => rfl
  rw [e]; exact F
def stp (c : Int × Int × Int) (n : Int) : Int × Int × Int := (Builtin.bitOr c.1 (2 ^ c.2.1.toNat), c.2.1 + n, Builtin.bitOr c.2.2 (2 ^ (c.2.1 + n - 1).toNat))
def Swar (ws : List Int) (full rest tops lows : Int) : Prop := ∀ x y : Int,
    Builtin.bitXor (Builtin.bitAnd x rest + Builtin.bitAnd y rest) (Builtin.bitAnd (Builtin.bitXor x y) tops) = laidOf ((tripOf x y ws).map gAdd) ws ∧
    takenE x y full rest tops = laidOf ((tripOf x y ws).map gSub) ws ∧
    Builtin.bitAnd (Builtin.bitOr (Builtin.bitAnd (Builtin.bitNot x) y) (Builtin.bitAnd (Builtin.bitNot (Builtin.bitXor x y)) (takenE x y full rest tops))) tops = laidOf ((tripOf x y ws).map gLess) ws ∧
    Builtin.bitAnd (Builtin.bitAnd x y) full + Builtin.bitAnd (Builtin.bitAnd (Builtin.bitXor x y) full) (Builtin.bitNot lows) / 2 = laidOf ((tripOf x y ws).map gMean) ws
section
variable {w : World} {mean : ExcName → Option Value} {mg mb : Str → Option Value} {news : List (Addr × Obj)}
theorem turnK {dp un : Nat} {gd : Option (List Code)} {a : Addr} {ccd : Value} {outer : List Env} {A₀ : Around} {base h₀ : Heap} {L : Addr} {m : Str → Option Value} {s : Shared} {Q : Flow → Shared → Prop} {E : Value → Shared → Prop}
    {x y full rest tops lows : Int} {tx ty tf tr tt tl : Tok} {wl : Addr} {us : List Value} {ws : List Int} {nn : Nat} (S : Swar ws full rest tops lows)
    (F : Fr h₀ L s.heap m) (N : News h₀ L s.heap news)
    (mx : m (Str.ofString "x") = some (.int x tx)) (my : m (Str.ofString "y") = some (.int y ty)) (mw : m (Str.ofString "widths") = some (.ref wl)) (mf : m (Str.ofString "full") = some (.int full tf)) (mr : m (Str.ofString "rest") = some (.int rest tr)) (mt : m (Str.ofString "tops") = some (.int tops tt)) (ml : m (Str.ofString "lows") = some (.int lows tl))
    (hm : (wl, W.listOf us.toArray nn) ∈ news)
    (hI : IntsAre us ws) (hw : ∀ n ∈ ws, 1 ≤ n ∧ n ≤ 6) (hl : ws.length ≤ 8) (hl0 : 0 < ws.length)
    (B : Below A₀ base outer h₀) (T : Top hd.view_39 (looseW hd.view_39 []) mean mg mb h₀) (X : (hd.heap_39 w.params).In h₀) (hdp : dp + 4 < recursionLimit) (hun : un + 40 < cLine)
    (hQ : ∀ (u : Str → Option Value) (h' : Heap) (tk' : Nat), Fr h₀ L h' (fun z => if storedT.contains z then u z else m z) → News h₀ L h' news → Q .next { s with heap := h', toks := tk' }) :
    wpAny (model PySem.Challenge.rw_pg0033_01.row.prog w) (ktrTop dp un gd (Str.ofString "law") (defScope lawS) L a ccd [] outer) (execs turnB (envOf (Str.ofString "law") (defScope lawS) L a ccd)) Q E s := by
  obtain ⟨e1, e2, e3, e4⟩ := S x y
  refine turn1 (m := m) (news := news) x y full rest tops lows tx ty tf tr tt tl wl us ws nn hI hw hl hl0 B (kstB_fr ?_ F) (fun p hp => N p ((List.mem_cons.mp hp).elim (fun e => e ▸ hm) id)) T hdp hun (fun h' tk' m' F' N' hz => ?_) e1 e2 e3 e4 X
  · intro p hp
    simp only [List.mem_cons, List.not_mem_nil, or_false] at hp
    rcases hp with rfl | rfl | rfl | rfl | rfl | rfl | rfl <;> assumption
  · have e : (fun z => if storedT.contains z then m' z else m z) = m' := by
      funext z
      by_cases h : storedT.contains z = true
      · rw [if_pos h]
      · rw [if_neg h, hz z (Bool.eq_false_iff.mpr h)]
        refine (kstB_eq (m₁ := m) (fun p hp => ?_) fun _ => rfl).symm
        simp only [List.mem_cons, List.not_mem_nil, or_false] at hp
        rcases hp with rfl | rfl | rfl | rfl | rfl <;> assumption
    exact hQ m' h' tk' (by rw [e]; exact F') fun p hp => N' p (List.mem_cons_of_mem _ hp)
end
end Mine
end
section
open PySem PySem.W PyProof.Rows
set_option maxRecDepth 100000
set_option maxHeartbeats 8000000
namespace Mine
section
variable {prog : Program} {w : World} {A : Around} {E : Value → Shared → Prop} {s : Shared} {h₀ : Heap} {env : Env} {news : List (Addr × Obj)} {Q : Flow → Shared → Prop}
theorem iter_pairs {x y : Str} {px py pt : Pos} {kt : Nat} {body : List Stmt} {t : Addr} {its : Array Value} {tn : Nat} {m₀ : Str → Option Value} (J : (Str → Option Value) → Prop)
    (hh : A.handled = none) (F : Fr h₀ env.locals s.heap m₀) (N : News h₀ env.locals s.heap news) (ht : (t, ({ cls := .type "tuple", data := .seq its tn } : Obj)) ∈ news)
    (hx : env.kindOf x = some .local) (hy : env.kindOf y = some .local) (hpl : (env.scope.kind == .class || (env.scope.kind == .module && env.locals != env.globals)) = false)
    (hp : ∀ (i : Nat) (v : Value), its[i]? = some v → ∃ (T : Addr) (oT : Obj) (nT : Nat) (a b : Int) (ta tb : Tok), v = .ref T ∧ (T, oT) ∈ news ∧ oT.cls = .type "tuple" ∧ oT.data = .seq #[.int a ta, .int b tb] nT)
    (hj : J m₀)
    (turn : ∀ (a b : Int) (ta tb : Tok) (m₁ : Str → Option Value) (nws : List (Addr × Obj)) (h : Heap) (tk : Nat), J m₁ → Fr h₀ env.locals h (fun z => if z = y then some (.int b tb) else if z = x then some (.int a ta) else m₁ z) → News h₀ env.locals h nws → (∀ p ∈ news, p ∈ nws) →
      wpAny (model prog w) A (execs body env) (fun f s' => f = .next ∧ ∃ h' tk' m', s' = { s with heap := h', toks := tk' } ∧ Fr h₀ env.locals h' m' ∧ News h₀ env.locals h' nws ∧ J m') E { s with heap := h, toks := tk })
    (done : ∀ (m' : Str → Option Value) (h : Heap) (tk : Nat), J m' → Fr h₀ env.locals h m' → News h₀ env.locals h news → Q .next { s with heap := h, toks := tk }) :
    wpAny (model prog w) A (pyIter (.ref t)) (fun it s₂ => TurnsAt prog w A h₀ env (.Tuple [.Name x px, .Name y py] kt pt) body Q E it s₂) E s := by
  have hl : s.heap.IsTuple t its := ⟨_, (N _ ht).1, rfl, tn, rfl⟩
  have hlt : @LT.lt Nat _ t s.heap.objs.size := Heap.lt_size (N _ ht).1
  refine wpAny_pyIter_tuple hl ?_
  refine ⟨s.heap.objs.size, _, _, its.size, _, _, _, m₀, news, fun _ m₁ n₁ => n₁ = news ∧ J m₁, rfl,
    KTurns.ofWalks (Walks.tuple hh s.heap.objs.size t (Nat.ne_of_lt hlt) its) (fun i v s Q E st q => letGo_tupleiter st.1 q), ?_, ?_, ?_, ⟨⟨_, Heap.get?_push_size _ rfl, rfl, rfl⟩, hl.at fun o e => Heap.get?_push_of_some _ e⟩, F.push _, (fun p hp => ⟨Heap.get?_push_of_some _ (N p hp).1, (N p hp).2⟩), ⟨rfl, hj⟩, ?_, ?_⟩
  · intro hm
    rcases List.mem_cons.mp hm with e | hm
    · exact absurd F.ns.lt (e ▸ Nat.lt_irrefl _)
    · have e := List.mem_singleton.mp hm
      exact (N _ ht).2.1 e.symm
  · intro b hb
    rw [List.mem_singleton.mp hb]
    exact next_is_new F
  · intro p hp hI
    exact absurd (Heap.lt_size (N p hp).1) ((List.mem_singleton.mp hI) ▸ Nat.lt_irrefl _)
  · rintro i v m₁ news₁ h₁ tk₁ own hi hP ⟨rfl, hJ⟩ hoff hsub hown _ st F₁ N₁
    obtain ⟨T, oT, nT, a, b, ta, tb, rfl, hmT, hcT, hdT⟩ := hp i v hP
    have hT : IsTup h₁ T #[.int a ta, .int b tb] := ⟨oT, (N₁ _ (List.mem_append_right _ hmT)).1, hcT, nT, hdT⟩
    refine assign_Tuple_tuple hh hT rfl rfl fun h₂ he => ?_
    have up : ∀ b o, h₁.get? b = some o → h₂.get? b = some o := fun b o e => he b o (Nat.ne_of_lt (Heap.lt_size e)) e
    have F₂ : Fr h₀ env.locals h₂ m₁ := F₁.keeps up
    have N₂ : News h₀ env.locals h₂ (own ++ news₁) := fun p hp => ⟨up _ _ (N₁ p hp).1, (N₁ p hp).2⟩
    refine assignInOrder_cons (wpAny_assign_Name (wpAny_storeName_local hx F₂.ns (fun h₃ hn₃ hs₃ => ?_) hpl))
    have F₃ := F₂.set hn₃ hs₃
    have N₃ := N₂.set hs₃
    refine assignInOrder_cons (wpAny_assign_Name (wpAny_storeName_local hy F₃.ns (fun h₄ hn₄ hs₄ => ?_) hpl))
    have F₄ := F₃.set hn₄ hs₄
    have N₄ := N₃.set hs₄
    refine assignInOrder_nil ?_
    refine wpAny_mono (turn a b ta tb m₁ (own ++ news₁) h₄ _ hJ F₄ N₄ fun p hp => List.mem_append_right _ hp) (fun f s' h => ?_) fun _ _ e => e
    obtain ⟨rfl, h', tk', m', rfl, F', N', hJ'⟩ := h
    exact .next ⟨rfl, h', tk', m', news₁, rfl, F', N', hoff, rfl, hJ'⟩
  · rintro h' tk m' news' F' N' _ ⟨rfl, hJ⟩
    exact done m' h' tk hJ F' N'
end
end Mine
end
section
open PySem PySem.W PyProof.Rows
set_option maxRecDepth 100000
set_option maxHeartbeats 8000000
namespace Mine
local macro_rules | `(tactic| walk_at "call ref") => `(tactic| (k_here; k_dflt (first
  | ((with_reducible show wpAny _ _ (call (Value.ref 21) _) _ _ _); (refine' cb_use (c_add _ _ _ _) ?k1 ?k2 ?k3 ?k4 ?k5 ?kK ?kp ?kd ?ku ?_; (case k1 => k_asm); (case k2 => k_asm); (case k3 => k_asm); (case k4 => k_asm); (case k5 => k_asm); (case kK => first | exact rfl | assumption); (case kp => trivial); (case kd => ktr_room); (case ku => ktr_units); intro t9 h9 tk9 F9 N9; (try dsimp only); (try k_sweep)))
  | ((with_reducible show wpAny _ _ (call (Value.ref 49) _) _ _ _); (refine' cb_use (c_or _ _ _ _) ?k1 ?k2 ?k3 ?k4 ?k5 ?kK ?kp ?kd ?ku ?_; (case k1 => k_asm); (case k2 => k_asm); (case k3 => k_asm); (case k4 => k_asm); (case k5 => k_asm); (case kK => first | exact rfl | assumption); (case kp => trivial); (case kd => ktr_room); (case ku => ktr_units); intro t9 h9 tk9 F9 N9; (try dsimp only); (try k_sweep)))
  | ((with_reducible show wpAny _ _ (call (Value.ref 63) _) _ _ _); (refine' cb_use (c_sub _ _ _ _) ?k1 ?k2 ?k3 ?k4 ?k5 ?kK ?kp ?kd ?ku ?_; (case k1 => k_asm); (case k2 => k_asm); (case k3 => k_asm); (case k4 => k_asm); (case k5 => k_asm); (case kK => first | exact rfl | assumption); (case kp => trivial); (case kd => ktr_room); (case ku => ktr_units); intro t9 h9 tk9 F9 N9; (try dsimp only); (try k_sweep)))
  | ((with_reducible show wpAny _ _ (call (Value.ref 70) _) _ _ _); (refine' cb_use (c_xor _ _ _ _) ?k1 ?k2 ?k3 ?k4 ?k5 ?kK ?kp ?kd ?ku ?_; (case k1 => k_asm); (case k2 => k_asm); (case k3 => k_asm); (case k4 => k_asm); (case k5 => k_asm); (case kK => first | exact rfl | assumption); (case kp => trivial); (case kd => ktr_room); (case ku => ktr_units); intro t9 h9 tk9 F9 N9; (try dsimp only); (try k_sweep)))
  | ((with_reducible show wpAny _ _ (call (Value.ref 84) _) _ _ _); (refine' cb_use (c_cut _ _) ?k1 ?k2 ?k3 ?k4 ?k5 ?kK ?kp ?kd ?ku ?_; (case k1 => k_asm); (case k2 => k_asm); (case k3 => k_asm); (case k4 => k_asm); (case k5 => k_asm); (case kK => first | exact rfl | assumption); (case kp => trivial); (case kd => ktr_room); (case ku => ktr_units); intro t9 h9 tk9 F9 N9; (try dsimp only); (try k_sweep)))
  | ((with_reducible show wpAny _ _ (call (Value.ref 42) _) _ _ _); (refine' cb_use (c_lshift _ _ _) ?k1 ?k2 ?k3 ?k4 ?k5 ?kK ?kp ?kd ?ku ?_; (case k1 => k_asm); (case k2 => k_asm); (case k3 => k_asm); (case k4 => k_asm); (case k5 => k_asm); (case kK => first | exact rfl | assumption); (case kp => omega); (case kd => ktr_room); (case ku => ktr_units); intro t9 h9 tk9 F9 N9; (try dsimp only); (try k_sweep))))))
section
variable {prog : Program} {w : World} {A : Around} {E : Value → Shared → Prop} {s : Shared} {h₀ : Heap} {L : Addr} {m : Str → Option Value} {news : List (Addr × Obj)} {Q : Value → Shared → Prop}
theorem sum_K {l : Addr} {items : Array Value} {n : Nat} {ms : List Int} (F : Fr h₀ L s.heap m) (N : News h₀ L s.heap news) (hm : (l, ({ cls := .type "list", data := .seq items n } : Obj)) ∈ news) (hi : IntsAre items.toList ms) (hh : A.handled = none)
    (h : ∀ v t h' tk, Fr h₀ L h' m → News h₀ L h' news → Q (.int v t) { s with heap := h', toks := tk }) : wpAny (model prog w) A (call (.builtin "sum") [.ref l]) Q E s := by
  have hl : s.heap.IsList l items := ⟨_, (N _ hm).1, rfl, n, rfl⟩
  have hlt : @LT.lt Nat _ l s.heap.objs.size := Heap.lt_size (N _ hm).1
  refine call_sum_walkG (wpAny_pyIter_list hl ?_)
  refine ⟨s.heap.objs.size, _, _, _, _, _, (fun i => ms.getD i 0), rfl, Walks.list (A := A.in1) hh s.heap.objs.size l (Nat.ne_of_lt hlt) items, ⟨⟨_, Heap.get?_push_size _ rfl, rfl, rfl⟩, hl.push _⟩, fun b hb => ?_, fun i v hP => ?_, fun h' tk t' hk => ?_⟩
  · show b < (s.heap.push _).objs.size
    rw [Heap.size_push]
    rcases List.mem_cons.mp hb with rfl | hb
    · exact Nat.lt_succ_self _
    · rw [List.mem_singleton.mp hb]; exact Nat.lt_succ_of_lt hlt
  · exact hi.int_at i v (by rw [Array.getElem?_toList]; exact hP)
  · have up : ∀ b o, s.heap.get? b = some o → h'.get? b = some o := fun b o e => hk b o (by simpa using Nat.ne_of_lt (Heap.lt_size e)) (Heap.get?_push_of_some _ e)
    exact h _ t' h' tk (F.keeps up) fun p hp => ⟨up _ _ (N p hp).1, (N p hp).2⟩
end
local macro_rules | `(tactic| walk_at "call builtin:sum") => `(tactic| (k_here; (with_reducible show wpAny _ _ (call (Value.builtin "sum") [Value.ref _]) _ _ _); k_dflt (refine' sum_K ?k1 ?k2 ?km ?ki ?kh ?_; (case k1 => k_asm); (case k2 => k_asm); (case km => k_mem); (case ki => exact IntsAre.pick (by assumption) _ _ _); (case kh => exact rfl)); intro v9 t9 h9 tk9 F9 N9; (try dsimp only); (try k_sweep)))
section
variable {w : World} {mean : ExcName → Option Value} {mg mb : Str → Option Value} {news : List (Addr × Obj)}
theorem nm_y {x y : Str} {a b : Value} {m₁ : Str → Option Value} (_ : Unit := ()) : (fun z => if z = y then some b else if z = x then some a else m₁ z) y = some b := if_pos rfl
theorem nm_x' {x y : Str} {a b : Value} {m₁ : Str → Option Value} (h : x ≠ y) : (fun z => if z = y then some b else if z = x then some a else m₁ z) x = some a := by
  show (if x = y then some b else if x = x then some a else m₁ x) = some a
  rw [if_neg h, if_pos rfl]
theorem nm_o {x y z : Str} {a b : Value} {v : Option Value} {m₁ : Str → Option Value} (h1 : z ≠ y) (h2 : z ≠ x) (h : m₁ z = v) : (fun z => if z = y then some b else if z = x then some a else m₁ z) z = v := by
  show (if z = y then some b else if z = x then some a else m₁ z) = v
  rw [if_neg h1, if_neg h2, h]
theorem nm_s {z : Str} {v : Option Value} {u m : Str → Option Value} (h1 : storedT.contains z = false) (h : m z = v) : (fun z => if storedT.contains z then u z else m z) z = v := by
  show (if storedT.contains z then u z else m z) = v
  rw [h1]; exact h
theorem st_bits0 : ((0 : Int), (0 : Int), (0 : Int)) = ([] : List Int).foldl stp (0, 0, 0) ∧ (0 : Int) ≤ 0 ∧ (0 : Int) ≤ 6 * (([] : List Int).length : Int) := ⟨rfl, by decide, by decide⟩
theorem st_bits {pre : List Int} {l p t n : Int} (hn : 1 ≤ n ∧ n ≤ 6) (h : (l, p, t) = pre.foldl stp (0, 0, 0)) (h0 : 0 ≤ p) (h1 : p ≤ 6 * (pre.length : Int)) :
    (Builtin.bitOr l (2 ^ p.toNat), p + n, Builtin.bitOr t (2 ^ (p + n - 1).toNat)) = (pre ++ [n]).foldl stp (0, 0, 0) ∧ 0 ≤ p + n ∧ p + n ≤ 6 * ((pre ++ [n]).length : Int) := by
  refine ⟨?_, by omega, ?_⟩
  · rw [List.foldl_append, ← h]; rfl
  · rw [List.length_append, List.length_singleton]; omega
theorem phB {dp un : Nat} {gd : Option (List Code)} {a : Addr} {ccd : Value} {outer : List Env} {A₀ : Around} {base h₀ : Heap} {L : Addr} {m : Str → Option Value} {s : Shared} {Q : Flow → Shared → Prop}
    (wl : Addr) (us : List Value) (ws : List Int) (nn : Nat) (hI : IntsAre us ws) (hw : ∀ n ∈ ws, 1 ≤ n ∧ n ≤ 6) (hl : ws.length ≤ 8) (hl0 : 0 < ws.length)
    (sl : Addr) (sv : List Value) (ns : List Int) (hsI : IntsAre sv ns) (hs63 : ns.length ≤ 63) (hLay : (PyData.list (List.map PyData.int ns)).layable0 = true) (hsl : h₀.IsList sl sv.toArray)
    (B : Below A₀ base outer h₀)
    (F : Fr h₀ L s.heap (kstB m [(Str.ofString "script", .ref sl), (Str.ofString "widths", .ref wl)]))
    (N : News h₀ L s.heap ((wl, W.listOf us.toArray nn) :: news)) (T : Top hd.view_39 (looseW hd.view_39 []) mean mg mb h₀) (hdp : dp + 8 < recursionLimit) (hun : un + 80 < cLine)
    (hS : ∀ l p t, (l, p, t) = ws.foldl stp (0, 0, 0) → Swar ws (2 ^ p.toNat - 1) (Builtin.bitXor (2 ^ p.toNat - 1) t) t l)
    (hQ : ∀ (h' : Heap) (tk' : Nat) (m' : Str → Option Value), Fr h₀ L h' m' → Q (.ret (.bool true)) { s with heap := h', toks := tk' }) : (hd.heap_39 w.params).In h₀ → 
    wpAny (model PySem.Challenge.rw_pg0033_01.row.prog w) (ktrTop dp un gd (Str.ofString "law") (defScope lawS) L a ccd [] outer) (execs ((defBody lawS).drop 6) (envOf (Str.ofString "law") (defScope lawS) L a ccd)) Q (fun _ _ => False) s := by
  k_with_none
  w_top off
  k_fill
  intro X
  conv in (occs := *) (defScope lawS) => all_goals whnf
  conv in List.drop 6 (defBody lawS) => whnf
  dsimp only [kstB] at F
  k_with "pyIter ref" => (k_of "width" => ((k_state (fun pre l p t => (l, p, t) = pre.foldl stp (0, 0, 0) ∧ 0 ≤ p ∧ p ≤ 6 * (pre.length : Int)) "lows" "place" "tops") <;> (try (have hW := hw _ kMem))))
  k_with "state" => first | exact st_bits0 | exact st_bits (by assumption) (by assumption) (by assumption) (by assumption)
  w_strict (
    k_steps
    refine' iter_pairs (fun m₁ => m₁ (Str.ofString "widths") = some (Value.ref wl) ∧ m₁ (Str.ofString "full") = some (Value.int ?full ?tf) ∧ m₁ (Str.ofString "rest") = some (Value.int ?rest ?tr) ∧ m₁ (Str.ofString "tops") = some (Value.int ?tops ?tt) ∧ m₁ (Str.ofString "lows") = some (Value.int ?lows ?tl)) ?kh ?k1 ?k2 ?kt ?hx ?hy ?hpl ?hp ?hj ?turn ?done
    case kh => exact rfl
    case k1 => k_asm
    case k2 => k_asm
    case kt => k_mem
    case hx => exact rfl
    case hy => exact rfl
    case hpl => exact rfl
    case hj => (refine' ⟨?_, ?_, ?_, ?_, ?_⟩ <;> (with_unfolding_all exact rfl))
    case hp =>
      intro i v hv
      rcases i with _ | _ | _ | _ | i
      · cases hv; exact ⟨_, _, _, _, _, _, _, rfl, by k_mem, rfl, rfl⟩
      · cases hv; exact ⟨_, _, _, _, _, _, _, rfl, by k_mem, rfl, rfl⟩
      · cases hv; exact ⟨_, _, _, _, _, _, _, rfl, by k_mem, rfl, rfl⟩
      · cases hv; exact ⟨_, _, _, _, _, _, _, rfl, by k_mem, rfl, rfl⟩
      · simp at hv
    case turn =>
      intro a b ta tb m₁ nws h tk hJ F N hsub
      obtain ⟨mw, mf, mr, mt, ml⟩ := hJ
      refine turnK (S := hS _ _ _ (by assumption)) F N (nm_x' (by decide)) (nm_y) (nm_o (by decide) (by decide) mw) (nm_o (by decide) (by decide) mf) (nm_o (by decide) (by decide) mr) (nm_o (by decide) (by decide) mt) (nm_o (by decide) (by decide) ml) (hsub _ (by k_mem)) hI hw hl hl0 B T X (by omega) (by omega) ?_
      intro u h' tk' F' N'
      exact ⟨rfl, h', tk', _, rfl, F', N', mw, mf, mr, mt, ml⟩
    case done =>
      intro m' h tk hJ F N
      k_steps
      all_goals (exact hQ _ _ _ (by assumption)))
end
end Mine
end
section
open PySem PySem.W PyProof.Rows
open PySem.Builtin (bitAnd bitOr bitXor bitNot)
namespace Mine
theorem xor_halves (x y : Int) : bitXor x y = 2 * bitXor (x / 2) (y / 2) + (x % 2 + y % 2 - 2 * (if x % 2 = 1 ∧ y % 2 = 1 then 1 else 0)) := by
  rw [bitXor_and, bitXor_and, kbt_halves]; split <;> omega
theorem or_halves (x y : Int) : bitOr x y = 2 * bitOr (x / 2) (y / 2) + (x % 2 + y % 2 - (if x % 2 = 1 ∧ y % 2 = 1 then 1 else 0)) := by
  rw [bitOr_and, bitOr_and, kbt_halves]; split <;> omega
theorem pw (k : Nat) : (2 : Int) ^ (k + 1) = 2 * 2 ^ k := by rw [Int.pow_succ]; omega
theorem pwp (k : Nat) : (0 : Int) < 2 ^ k := kbt_pos k
theorem and_split (k : Nat) : ∀ (a b u v : Int), 0 ≤ u → u < 2 ^ k → 0 ≤ v → v < 2 ^ k → bitAnd (2 ^ k * a + u) (2 ^ k * b + v) = 2 ^ k * bitAnd a b + bitAnd u v := by
  induction k with
  | zero =>
    intro a b u v h1 h2 h3 h4
    have e1 : u = 0 := by simp at h2; omega
    have e2 : v = 0 := by simp at h4; omega
    subst e1 e2
    simp [bitAnd_zero]
  | succ k ih =>
    intro a b u v h1 h2 h3 h4
    rw [pw] at h2 h4 ⊢
    rw [kbt_halves (2 * 2 ^ k * a + u), kbt_halves u v]
    have e1 : (2 * 2 ^ k * a + u) / 2 = 2 ^ k * a + u / 2 := by rw [Int.mul_assoc]; omega
    have e2 : (2 * 2 ^ k * b + v) / 2 = 2 ^ k * b + v / 2 := by rw [Int.mul_assoc]; omega
    have e3 : (2 * 2 ^ k * a + u) % 2 = u % 2 := by rw [Int.mul_assoc]; omega
    have e4 : (2 * 2 ^ k * b + v) % 2 = v % 2 := by rw [Int.mul_assoc]; omega
    rw [e1, e2, e3, e4, ih a b (u / 2) (v / 2) (by omega) (by omega) (by omega) (by omega), Int.mul_assoc]
    omega
theorem xor_split (k : Nat) (a b u v : Int) (h1 : 0 ≤ u) (h2 : u < 2 ^ k) (h3 : 0 ≤ v) (h4 : v < 2 ^ k) : bitXor (2 ^ k * a + u) (2 ^ k * b + v) = 2 ^ k * bitXor a b + bitXor u v := by
  rw [bitXor_and, bitXor_and, bitXor_and, and_split k a b u v h1 h2 h3 h4]
  have d : 2 ^ k * (a + b - 2 * bitAnd a b) = 2 ^ k * a + 2 ^ k * b - 2 * (2 ^ k * bitAnd a b) := by rw [Int.mul_sub, Int.mul_add, Int.mul_left_comm]
  rw [d]; omega
theorem or_split (k : Nat) (a b u v : Int) (h1 : 0 ≤ u) (h2 : u < 2 ^ k) (h3 : 0 ≤ v) (h4 : v < 2 ^ k) : bitOr (2 ^ k * a + u) (2 ^ k * b + v) = 2 ^ k * bitOr a b + bitOr u v := by
  rw [bitOr_and, bitOr_and, bitOr_and, and_split k a b u v h1 h2 h3 h4]
  have d : 2 ^ k * (a + b - bitAnd a b) = 2 ^ k * a + 2 ^ k * b - 2 ^ k * bitAnd a b := by rw [Int.mul_sub, Int.mul_add]
  rw [d]; omega
theorem not_split (k : Nat) (a u : Int) : bitNot (2 ^ k * a + u) = 2 ^ k * bitNot a + (2 ^ k - 1 - u) := by
  show -(2 ^ k * a + u) - 1 = 2 ^ k * (-a - 1) + (2 ^ k - 1 - u)
  rw [Int.mul_sub, Int.mul_neg]; omega
theorem rng (k : Nat) : ∀ (u v : Int), 0 ≤ u → u < 2 ^ k → 0 ≤ v → v < 2 ^ k → (0 ≤ bitAnd u v ∧ bitAnd u v < 2 ^ k) ∧ (0 ≤ bitXor u v ∧ bitXor u v < 2 ^ k) ∧ (0 ≤ bitOr u v ∧ bitOr u v < 2 ^ k) := by
  induction k with
  | zero =>
    intro u v h1 h2 h3 h4
    have e1 : u = 0 := by simp at h2; omega
    have e2 : v = 0 := by simp at h4; omega
    subst e1 e2
    decide
  | succ k ih =>
    intro u v h1 h2 h3 h4
    rw [pw] at h2 h4 ⊢
    have := ih (u / 2) (v / 2) (by omega) (by omega) (by omega) (by omega)
    rw [kbt_halves u v, xor_halves u v, or_halves u v]
    split <;> omega
theorem bits01 {h : Int} (h0 : 0 ≤ h) (h1 : h < 2) : h = 0 ∨ h = 1 := by omega
theorem mod_of {X M q r : Int} (hM : 0 < M) (e : r + M * q = X) (h0 : 0 ≤ r) (h1 : r < M) : X % M = r := (kbt_unique hM e h0 h1).2
theorem xor0 (x : Int) : bitXor x 0 = x := bitXor_zero x
theorem or0 (x : Int) : bitOr x 0 = x := by rw [bitOr_and, bitAnd_zero]; omega
-- one field: H = 2^k the place of its top, u = H*hu + lu, v = H*hv + lv
theorem low_add (k : Nat) (hu hv lu lv : Int) (a1 : 0 ≤ hu) (a2 : hu < 2) (a3 : 0 ≤ hv) (a4 : hv < 2) (b1 : 0 ≤ lu) (b2 : lu < 2 ^ k) (b3 : 0 ≤ lv) (b4 : lv < 2 ^ k) :
    bitXor (lu + lv) (2 ^ k * bitXor hu hv) = (2 ^ k * hu + lu + (2 ^ k * hv + lv)) % (2 * 2 ^ k) := by
  have hp := pwp k
  by_cases hc : lu + lv < 2 ^ k
  · have e : bitXor (lu + lv) (2 ^ k * bitXor hu hv) = 2 ^ k * bitXor 0 (bitXor hu hv) + bitXor (lu + lv) 0 := by
      have := xor_split k 0 (bitXor hu hv) (lu + lv) 0 (by omega) hc (by omega) hp
      rw [Int.mul_zero, Int.zero_add, Int.add_zero] at this; exact this
    rw [e, xor0]
    rcases bits01 a1 a2 with rfl | rfl <;> rcases bits01 a3 a4 with rfl | rfl
    · exact (mod_of (q := 0) (by omega) (by rw [show bitXor 0 (bitXor 0 0) = 0 by decide]; omega) (by rw [show bitXor 0 (bitXor 0 0) = 0 by decide]; omega) (by rw [show bitXor 0 (bitXor 0 0) = 0 by decide]; omega)).symm
    · exact (mod_of (q := 0) (by omega) (by rw [show bitXor 0 (bitXor 0 1) = 1 by decide]; omega) (by rw [show bitXor 0 (bitXor 0 1) = 1 by decide]; omega) (by rw [show bitXor 0 (bitXor 0 1) = 1 by decide]; omega)).symm
    · exact (mod_of (q := 0) (by omega) (by rw [show bitXor 0 (bitXor 1 0) = 1 by decide]; omega) (by rw [show bitXor 0 (bitXor 1 0) = 1 by decide]; omega) (by rw [show bitXor 0 (bitXor 1 0) = 1 by decide]; omega)).symm
    · exact (mod_of (q := 1) (by omega) (by rw [show bitXor 0 (bitXor 1 1) = 0 by decide]; omega) (by rw [show bitXor 0 (bitXor 1 1) = 0 by decide]; omega) (by rw [show bitXor 0 (bitXor 1 1) = 0 by decide]; omega)).symm
  · have e : bitXor (lu + lv) (2 ^ k * bitXor hu hv) = 2 ^ k * bitXor 1 (bitXor hu hv) + bitXor (lu + lv - 2 ^ k) 0 := by
      have := xor_split k 1 (bitXor hu hv) (lu + lv - 2 ^ k) 0 (by omega) (by omega) (by omega) hp
      rw [Int.mul_one, Int.add_zero, show 2 ^ k + (lu + lv - 2 ^ k) = lu + lv by omega] at this; exact this
    rw [e, xor0]
    rcases bits01 a1 a2 with rfl | rfl <;> rcases bits01 a3 a4 with rfl | rfl
    · exact (mod_of (q := 0) (by omega) (by rw [show bitXor 1 (bitXor 0 0) = 1 by decide]; omega) (by rw [show bitXor 1 (bitXor 0 0) = 1 by decide]; omega) (by rw [show bitXor 1 (bitXor 0 0) = 1 by decide]; omega)).symm
    · exact (mod_of (q := 1) (by omega) (by rw [show bitXor 1 (bitXor 0 1) = 0 by decide]; omega) (by rw [show bitXor 1 (bitXor 0 1) = 0 by decide]; omega) (by rw [show bitXor 1 (bitXor 0 1) = 0 by decide]; omega)).symm
    · exact (mod_of (q := 1) (by omega) (by rw [show bitXor 1 (bitXor 1 0) = 0 by decide]; omega) (by rw [show bitXor 1 (bitXor 1 0) = 0 by decide]; omega) (by rw [show bitXor 1 (bitXor 1 0) = 0 by decide]; omega)).symm
    · exact (mod_of (q := 1) (by omega) (by rw [show bitXor 1 (bitXor 1 1) = 1 by decide]; omega) (by rw [show bitXor 1 (bitXor 1 1) = 1 by decide]; omega) (by rw [show bitXor 1 (bitXor 1 1) = 1 by decide]; omega)).symm
end Mine
end
section
open PySem PySem.W PyProof.Rows
open PySem.Builtin (bitAnd bitOr bitXor bitNot)
namespace Mine
theorem x00 : bitXor 0 0 = 0 := by decide
theorem x01 : bitXor 0 1 = 1 := by decide
theorem x10 : bitXor 1 0 = 1 := by decide
theorem x11 : bitXor 1 1 = 0 := by decide
theorem a00 : bitAnd 0 0 = 0 := by decide
theorem a01 : bitAnd 0 1 = 0 := by decide
theorem a10 : bitAnd 1 0 = 0 := by decide
theorem a11 : bitAnd 1 1 = 1 := by decide
theorem o00 : bitOr 0 0 = 0 := by decide
theorem o01 : bitOr 0 1 = 1 := by decide
theorem o10 : bitOr 1 0 = 1 := by decide
theorem o11 : bitOr 1 1 = 1 := by decide
-- the difference of one field: its top bit and what lies below
def dtop (hu hv lu lv : Int) : Int := bitXor (if lv ≤ lu then 1 else 0) (bitXor hu (1 - hv))
def dlow (H lu lv : Int) : Int := if lv ≤ lu then lu - lv else H + lu - lv
theorem low_sub0 (k : Nat) (hu hv lu lv : Int) (b1 : 0 ≤ lu) (b2 : lu < 2 ^ k) (b3 : 0 ≤ lv) (b4 : lv < 2 ^ k) :
    bitXor (2 ^ k + lu - lv) (2 ^ k * bitXor hu (1 - hv)) = 2 ^ k * dtop hu hv lu lv + dlow (2 ^ k) lu lv := by
  have hp := pwp k
  unfold dtop dlow
  by_cases hc : lv ≤ lu
  · rw [if_pos hc, if_pos hc]
    have := xor_split k 1 (bitXor hu (1 - hv)) (lu - lv) 0 (by omega) (by omega) (by omega) hp
    rw [Int.mul_one, Int.add_zero, show 2 ^ k + (lu - lv) = 2 ^ k + lu - lv by omega, xor0] at this; exact this
  · rw [if_neg hc, if_neg hc]
    have := xor_split k 0 (bitXor hu (1 - hv)) (2 ^ k + lu - lv) 0 (by omega) (by omega) (by omega) hp
    rw [Int.mul_zero, Int.zero_add, Int.add_zero, xor0] at this; exact this
theorem low_sub (k : Nat) (hu hv lu lv : Int) (a1 : 0 ≤ hu) (a2 : hu < 2) (a3 : 0 ≤ hv) (a4 : hv < 2) (b1 : 0 ≤ lu) (b2 : lu < 2 ^ k) (b3 : 0 ≤ lv) (b4 : lv < 2 ^ k) :
    2 ^ k * dtop hu hv lu lv + dlow (2 ^ k) lu lv = (2 ^ k * hu + lu - (2 ^ k * hv + lv)) % (2 * 2 ^ k) := by
  have hp := pwp k
  unfold dtop dlow
  generalize (2 : Int) ^ k = H at *
  by_cases hc : lv ≤ lu
  · simp only [if_pos hc]
    rcases bits01 a1 a2 with rfl | rfl <;> rcases bits01 a3 a4 with rfl | rfl <;> simp only [Int.sub_zero, Int.sub_self, x00, x01, x10, x11]
    · exact (mod_of (q := 0) (by omega) (by omega) (by omega) (by omega)).symm
    · exact (mod_of (q := -1) (by omega) (by omega) (by omega) (by omega)).symm
    · exact (mod_of (q := 0) (by omega) (by omega) (by omega) (by omega)).symm
    · exact (mod_of (q := 0) (by omega) (by omega) (by omega) (by omega)).symm
  · simp only [if_neg hc]
    rcases bits01 a1 a2 with rfl | rfl <;> rcases bits01 a3 a4 with rfl | rfl <;> simp only [Int.sub_zero, Int.sub_self, x00, x01, x10, x11]
    · exact (mod_of (q := -1) (by omega) (by omega) (by omega) (by omega)).symm
    · exact (mod_of (q := -1) (by omega) (by omega) (by omega) (by omega)).symm
    · exact (mod_of (q := 0) (by omega) (by omega) (by omega) (by omega)).symm
    · exact (mod_of (q := -1) (by omega) (by omega) (by omega) (by omega)).symm
theorem dtop_bit {hu hv lu lv : Int} (a1 : 0 ≤ hu) (a2 : hu < 2) (a3 : 0 ≤ hv) (a4 : hv < 2) : 0 ≤ dtop hu hv lu lv ∧ dtop hu hv lu lv < 2 := by
  unfold dtop
  rcases bits01 a1 a2 with rfl | rfl <;> rcases bits01 a3 a4 with rfl | rfl <;> split <;> decide
theorem dlow_rng {H lu lv : Int} (b1 : 0 ≤ lu) (b2 : lu < H) (b3 : 0 ≤ lv) (b4 : lv < H) : 0 ≤ dlow H lu lv ∧ dlow H lu lv < H := by
  unfold dlow; split <;> omega
theorem low_less (k : Nat) (hu hv lu lv : Int) (a1 : 0 ≤ hu) (a2 : hu < 2) (a3 : 0 ≤ hv) (a4 : hv < 2) (b1 : 0 ≤ lu) (b2 : lu < 2 ^ k) (b3 : 0 ≤ lv) (b4 : lv < 2 ^ k) :
    2 ^ k * bitAnd (bitOr (bitAnd (1 - hu) hv) (bitAnd (1 - bitXor hu hv) (dtop hu hv lu lv))) 1 = if 2 ^ k * hu + lu < 2 ^ k * hv + lv then 2 * 2 ^ k / 2 else 0 := by
  have hp := pwp k
  unfold dtop
  generalize (2 : Int) ^ k = H at *
  have e : 2 * H / 2 = H := by omega
  rw [e]
  by_cases hc : lv ≤ lu
  · simp only [if_pos hc]
    rcases bits01 a1 a2 with rfl | rfl <;> rcases bits01 a3 a4 with rfl | rfl <;> simp only [Int.sub_zero, Int.sub_self, x00, x01, x10, x11, a00, a01, a10, a11, o00, o01, o10, o11, Int.mul_zero, Int.mul_one]
    · rw [if_neg (by omega)]
    · rw [if_pos (by omega)]
    · rw [if_neg (by omega)]
    · rw [if_neg (by omega)]
  · simp only [if_neg hc]
    rcases bits01 a1 a2 with rfl | rfl <;> rcases bits01 a3 a4 with rfl | rfl <;> simp only [Int.sub_zero, Int.sub_self, x00, x01, x10, x11, a00, a01, a10, a11, o00, o01, o10, o11, Int.mul_zero, Int.mul_one]
    · rw [if_pos (by omega)]
    · rw [if_pos (by omega)]
    · rw [if_neg (by omega)]
    · rw [if_pos (by omega)]
theorem clear0 (k : Nat) (q : Int) (h0 : 0 ≤ q) (h1 : q < 2 * 2 ^ k) : bitAnd q (2 * 2 ^ k - 1 - 1) = 2 * (q / 2) := by
  rw [kbt_halves]
  have e1 : (2 * (2 : Int) ^ k - 1 - 1) / 2 = 2 ^ k - 1 := by omega
  have e2 : (2 * (2 : Int) ^ k - 1 - 1) % 2 = 0 := by omega
  rw [e1, e2, kbt_mask, if_neg (by omega), Int.emod_eq_of_lt (by omega) (by omega)]
  omega
theorem low_mean (k : Nat) (u v : Int) (h1 : 0 ≤ u) (h2 : u < 2 * 2 ^ k) (h3 : 0 ≤ v) (h4 : v < 2 * 2 ^ k) : bitAnd u v + bitAnd (bitXor u v) (2 * 2 ^ k - 1 - 1) / 2 = (u + v) / 2 := by
  have hr := rng (k + 1) u v h1 (by rw [pw]; exact h2) h3 (by rw [pw]; exact h4)
  rw [pw] at hr
  rw [clear0 k _ hr.2.1.1 hr.2.1.2]
  have := bitXor_and u v
  omega
end Mine
end
section
open PySem PySem.W PyProof.Rows
open PySem.Builtin (bitAnd bitOr bitXor bitNot)
set_option linter.unusedSimpArgs false
namespace Mine
theorem parts (k : Nat) {u : Int} (h0 : 0 ≤ u) (h1 : u < 2 * 2 ^ k) : ∃ h l : Int, u = 2 ^ k * h + l ∧ 0 ≤ h ∧ h < 2 ∧ 0 ≤ l ∧ l < 2 ^ k := by
  have hp := pwp k
  refine ⟨u / 2 ^ k, u % 2 ^ k, (Int.mul_ediv_add_emod u (2 ^ k)).symm, Int.ediv_nonneg h0 (Int.le_of_lt hp), ?_, Int.emod_nonneg _ (by omega), Int.emod_lt_of_pos _ hp⟩
  exact Int.ediv_lt_of_lt_mul hp h1
theorem and1 {b : Int} (h0 : 0 ≤ b) (h1 : b < 2) : bitAnd b 1 = b := by rcases bits01 h0 h1 with rfl | rfl <;> decide
theorem xor_bit {a b : Int} (a1 : 0 ≤ a) (a2 : a < 2) (b1 : 0 ≤ b) (b2 : b < 2) : 0 ≤ bitXor a b ∧ bitXor a b < 2 := by
  rcases bits01 a1 a2 with rfl | rfl <;> rcases bits01 b1 b2 with rfl | rfl <;> decide
theorem top_and (k : Nat) {h l : Int} (a1 : 0 ≤ h) (a2 : h < 2) (b1 : 0 ≤ l) (b2 : l < 2 ^ k) : bitAnd (2 ^ k * h + l) (2 ^ k) = 2 ^ k * h := by
  have := and_split k h 1 l 0 b1 b2 (by omega) (pwp k)
  rw [Int.mul_one, Int.add_zero, bitAnd_zero, Int.add_zero, and1 a1 a2] at this; exact this
theorem low_rest (k : Nat) {h l : Int} (b1 : 0 ≤ l) (b2 : l < 2 ^ k) : bitAnd (2 ^ k * h + l) (2 ^ k - 1) = l := by
  rw [kbt_mask, Int.add_comm, Int.add_mul_emod_self_left, Int.emod_eq_of_lt b1 b2]
theorem mul_lt2 (k : Nat) {h l : Int} (a1 : 0 ≤ h) (a2 : h < 2) (b1 : 0 ≤ l) (b2 : l < 2 ^ k) : 0 ≤ 2 ^ k * h + l ∧ 2 ^ k * h + l < 2 * 2 ^ k := by
  have hp := pwp k
  rcases bits01 a1 a2 with rfl | rfl <;> omega
theorem add_step (k : Nat) (x y r t u v : Int) (h1 : 0 ≤ u) (h2 : u < 2 * 2 ^ k) (h3 : 0 ≤ v) (h4 : v < 2 * 2 ^ k) :
    bitXor (bitAnd (2 ^ (k + 1) * x + u) (2 ^ (k + 1) * r + (2 ^ k - 1)) + bitAnd (2 ^ (k + 1) * y + v) (2 ^ (k + 1) * r + (2 ^ k - 1))) (bitAnd (bitXor (2 ^ (k + 1) * x + u) (2 ^ (k + 1) * y + v)) (2 ^ (k + 1) * t + 2 ^ k)) =
      2 ^ (k + 1) * bitXor (bitAnd x r + bitAnd y r) (bitAnd (bitXor x y) t) + (u + v) % (2 * 2 ^ k) := by
  have hp := pwp k
  have hr := rng (k + 1) u v h1 (by rw [pw]; exact h2) h3 (by rw [pw]; exact h4)
  rw [and_split (k + 1) x r u (2 ^ k - 1) h1 (by rw [pw]; exact h2) (by omega) (by rw [pw]; omega), and_split (k + 1) y r v (2 ^ k - 1) h3 (by rw [pw]; exact h4) (by omega) (by rw [pw]; omega),
    xor_split (k + 1) x y u v h1 (by rw [pw]; exact h2) h3 (by rw [pw]; exact h4), and_split (k + 1) (bitXor x y) t (bitXor u v) (2 ^ k) hr.2.1.1 hr.2.1.2 (by omega) (by rw [pw]; omega)]
  obtain ⟨hu, lu, rfl, c1, c2, c3, c4⟩ := parts k h1 h2
  obtain ⟨hv, lv, rfl, d1, d2, d3, d4⟩ := parts k h3 h4
  have hb := xor_bit c1 c2 d1 d2
  have hl := rng k lu lv c3 c4 d3 d4
  rw [low_rest k c3 c4, low_rest k d3 d4, xor_split k hu hv lu lv c3 c4 d3 d4, top_and k hb.1 hb.2 hl.2.1.1 hl.2.1.2]
  have e : 2 ^ (k + 1) * bitAnd x r + lu + (2 ^ (k + 1) * bitAnd y r + lv) = 2 ^ (k + 1) * (bitAnd x r + bitAnd y r) + (lu + lv) := by rw [Int.mul_add]; omega
  have hm := mul_lt2 k hb.1 hb.2 (Int.le_refl 0) hp
  rw [Int.add_zero] at hm
  rw [e, xor_split (k + 1) _ _ (lu + lv) (2 ^ k * bitXor hu hv) (by omega) (by rw [pw]; omega) hm.1 (by rw [pw]; exact hm.2), low_add k hu hv lu lv c1 c2 d1 d2 c3 c4 d3 d4]
theorem sub_step (k : Nat) (x y f r t hu lu hv lv : Int) (c1 : 0 ≤ hu) (c2 : hu < 2) (c3 : 0 ≤ lu) (c4 : lu < 2 ^ k) (d1 : 0 ≤ hv) (d2 : hv < 2) (d3 : 0 ≤ lv) (d4 : lv < 2 ^ k) :
    takenE (2 ^ (k + 1) * x + (2 ^ k * hu + lu)) (2 ^ (k + 1) * y + (2 ^ k * hv + lv)) (2 ^ (k + 1) * f + (2 ^ (k + 1) - 1)) (2 ^ (k + 1) * r + (2 ^ k - 1)) (2 ^ (k + 1) * t + 2 ^ k) =
      2 ^ (k + 1) * takenE x y f r t + (2 ^ k * dtop hu hv lu lv + dlow (2 ^ k) lu lv) := by
  have hp := pwp k
  have hu2 := mul_lt2 k c1 c2 c3 c4
  have hv2 := mul_lt2 k d1 d2 d3 d4
  have p1 := pw k
  have hn : 2 ^ (k + 1) - 1 - (2 ^ k * hv + lv) = 2 ^ k * (1 - hv) + (2 ^ k - 1 - lv) := by rw [pw, Int.mul_sub, Int.mul_one]; omega
  unfold takenE
  rw [and_split (k + 1) x f (2 ^ k * hu + lu) (2 ^ (k + 1) - 1) hu2.1 (by rw [pw]; exact hu2.2) (by omega) (by omega), kbt_mask, Int.emod_eq_of_lt hu2.1 (by rw [pw]; exact hu2.2),
    or_split (k + 1) _ t (2 ^ k * hu + lu) (2 ^ k) hu2.1 (by rw [pw]; exact hu2.2) (by omega) (by omega),
    and_split (k + 1) y r (2 ^ k * hv + lv) (2 ^ k - 1) hv2.1 (by rw [pw]; exact hv2.2) (by omega) (by omega), low_rest k d3 d4, not_split (k + 1) y (2 ^ k * hv + lv), hn]
  have hn2 := mul_lt2 k (h := 1 - hv) (l := 2 ^ k - 1 - lv) (by omega) (by omega) (by omega) (by omega)
  have hrx := rng (k + 1) (2 ^ k * hu + lu) (2 ^ k * (1 - hv) + (2 ^ k - 1 - lv)) hu2.1 (by rw [pw]; exact hu2.2) hn2.1 (by rw [pw]; exact hn2.2)
  rw [xor_split (k + 1) x (bitNot y) _ _ hu2.1 (by rw [pw]; exact hu2.2) hn2.1 (by rw [pw]; exact hn2.2), and_split (k + 1) _ t _ (2 ^ k) hrx.2.1.1 hrx.2.1.2 (by omega) (by omega)]
  have hb := xor_bit c1 c2 (show 0 ≤ 1 - hv by omega) (show 1 - hv < 2 by omega)
  have hl := rng k lu (2 ^ k - 1 - lv) c3 c4 (by omega) (by omega)
  rw [xor_split k hu (1 - hv) lu (2 ^ k - 1 - lv) c3 c4 (by omega) (by omega), top_and k hb.1 hb.2 hl.2.1.1 hl.2.1.2]
  have eo : bitOr (2 ^ k * hu + lu) (2 ^ k) = 2 ^ k + lu := by
    have := or_split k hu 1 lu 0 c3 c4 (by omega) hp
    rw [Int.mul_one, Int.add_zero, or0] at this
    rw [this, show bitOr hu 1 = 1 by rcases bits01 c1 c2 with rfl | rfl <;> decide, Int.mul_one]
  rw [eo]
  have e : 2 ^ (k + 1) * bitOr (bitAnd x f) t + (2 ^ k + lu) - (2 ^ (k + 1) * bitAnd y r + lv) = 2 ^ (k + 1) * (bitOr (bitAnd x f) t - bitAnd y r) + (2 ^ k + lu - lv) := by rw [Int.mul_sub]; omega
  have hm := mul_lt2 k hb.1 hb.2 (Int.le_refl 0) hp
  rw [Int.add_zero] at hm
  rw [e, xor_split (k + 1) _ _ (2 ^ k + lu - lv) (2 ^ k * bitXor hu (1 - hv)) (by omega) (by rw [pw]; omega) hm.1 (by rw [pw]; exact hm.2), low_sub0 k hu hv lu lv c3 c4 d3 d4]
theorem less_step (k : Nat) (x y D t hu lu hv lv : Int) (c1 : 0 ≤ hu) (c2 : hu < 2) (c3 : 0 ≤ lu) (c4 : lu < 2 ^ k) (d1 : 0 ≤ hv) (d2 : hv < 2) (d3 : 0 ≤ lv) (d4 : lv < 2 ^ k) :
    bitAnd (bitOr (bitAnd (bitNot (2 ^ (k + 1) * x + (2 ^ k * hu + lu))) (2 ^ (k + 1) * y + (2 ^ k * hv + lv))) (bitAnd (bitNot (bitXor (2 ^ (k + 1) * x + (2 ^ k * hu + lu)) (2 ^ (k + 1) * y + (2 ^ k * hv + lv)))) (2 ^ (k + 1) * D + (2 ^ k * dtop hu hv lu lv + dlow (2 ^ k) lu lv)))) (2 ^ (k + 1) * t + 2 ^ k) =
      2 ^ (k + 1) * bitAnd (bitOr (bitAnd (bitNot x) y) (bitAnd (bitNot (bitXor x y)) D)) t + (if 2 ^ k * hu + lu < 2 ^ k * hv + lv then 2 * 2 ^ k / 2 else 0) := by
  have hp := pwp k
  have p1 := pw k
  have hu2 := mul_lt2 k c1 c2 c3 c4
  have hv2 := mul_lt2 k d1 d2 d3 d4
  have hb := xor_bit c1 c2 d1 d2
  have hl := rng k lu lv c3 c4 d3 d4
  have hn : 2 ^ (k + 1) - 1 - (2 ^ k * hu + lu) = 2 ^ k * (1 - hu) + (2 ^ k - 1 - lu) := by rw [pw, Int.mul_sub, Int.mul_one]; omega
  have hn' : 2 ^ (k + 1) - 1 - (2 ^ k * bitXor hu hv + bitXor lu lv) = 2 ^ k * (1 - bitXor hu hv) + (2 ^ k - 1 - bitXor lu lv) := by rw [pw, Int.mul_sub, Int.mul_one]; omega
  have hD := dtop_bit (lu := lu) (lv := lv) c1 c2 d1 d2
  have hdl := dlow_rng c3 c4 d3 d4
  have n1 := mul_lt2 k (h := 1 - hu) (l := 2 ^ k - 1 - lu) (by omega) (by omega) (by omega) (by omega)
  have n2 := mul_lt2 k (h := 1 - bitXor hu hv) (l := 2 ^ k - 1 - bitXor lu lv) (by omega) (by omega) (by omega) (by omega)
  have n3 := mul_lt2 k hD.1 hD.2 hdl.1 hdl.2
  rw [not_split (k + 1) x, hn, xor_split (k + 1) x y _ _ hu2.1 (by rw [pw]; exact hu2.2) hv2.1 (by rw [pw]; exact hv2.2), xor_split k hu hv lu lv c3 c4 d3 d4, not_split (k + 1) (bitXor x y), hn',
    and_split (k + 1) (bitNot x) y _ _ n1.1 (by rw [pw]; exact n1.2) hv2.1 (by rw [pw]; exact hv2.2), and_split (k + 1) (bitNot (bitXor x y)) D _ _ n2.1 (by rw [pw]; exact n2.2) n3.1 (by rw [pw]; exact n3.2),
    and_split k (1 - hu) hv (2 ^ k - 1 - lu) lv (by omega) (by omega) d3 d4, and_split k (1 - bitXor hu hv) (dtop hu hv lu lv) (2 ^ k - 1 - bitXor lu lv) (dlow (2 ^ k) lu lv) (by omega) (by omega) hdl.1 hdl.2]
  have r1 := rng k (2 ^ k - 1 - lu) lv (by omega) (by omega) d3 d4
  have r2 := rng k (2 ^ k - 1 - bitXor lu lv) (dlow (2 ^ k) lu lv) (by omega) (by omega) hdl.1 hdl.2
  have s1 := rng 1 (1 - hu) hv (by omega) (by simp; omega) d1 (by simpa using d2)
  have s2 := rng 1 (1 - bitXor hu hv) (dtop hu hv lu lv) (by omega) (by simp; omega) hD.1 (by simpa using hD.2)
  simp only [Int.pow_one, show (2 : Int) ^ 1 = 2 from rfl] at s1 s2
  have m1 := mul_lt2 k s1.1.1 s1.1.2 r1.1.1 r1.1.2
  have m2 := mul_lt2 k s2.1.1 s2.1.2 r2.1.1 r2.1.2
  rw [or_split (k + 1) _ _ _ _ m1.1 (by rw [pw]; exact m1.2) m2.1 (by rw [pw]; exact m2.2), or_split k _ _ _ _ r1.1.1 r1.1.2 r2.1.1 r2.1.2]
  have r3 := rng k _ _ r1.1.1 r1.1.2 r2.1.1 r2.1.2
  have s3 := rng 1 _ _ s1.1.1 (by simpa using s1.1.2) s2.1.1 (by simpa using s2.1.2)
  simp only [show (2 : Int) ^ 1 = 2 from rfl] at s3
  have m3 := mul_lt2 k s3.2.2.1 s3.2.2.2 r3.2.2.1 r3.2.2.2
  rw [and_split (k + 1) _ t _ (2 ^ k) m3.1 (by rw [pw]; exact m3.2) (by omega) (by omega), top_and k s3.2.2.1 s3.2.2.2 r3.2.2.1 r3.2.2.2]
  have := low_less k hu hv lu lv c1 c2 d1 d2 c3 c4 d3 d4
  rw [and1 s3.2.2.1 s3.2.2.2] at this
  rw [this]
theorem mean_step (k : Nat) (x y f l u v : Int) (h1 : 0 ≤ u) (h2 : u < 2 * 2 ^ k) (h3 : 0 ≤ v) (h4 : v < 2 * 2 ^ k) (hev : bitAnd (bitAnd (bitXor x y) f) (bitNot l) % 2 = 0) :
    bitAnd (bitAnd (2 ^ (k + 1) * x + u) (2 ^ (k + 1) * y + v)) (2 ^ (k + 1) * f + (2 ^ (k + 1) - 1)) + bitAnd (bitAnd (bitXor (2 ^ (k + 1) * x + u) (2 ^ (k + 1) * y + v)) (2 ^ (k + 1) * f + (2 ^ (k + 1) - 1))) (bitNot (2 ^ (k + 1) * l + 1)) / 2 =
      2 ^ (k + 1) * (bitAnd (bitAnd x y) f + bitAnd (bitAnd (bitXor x y) f) (bitNot l) / 2) + (u + v) / 2 := by
  have hp := pwp k
  have p1 := pw k
  have hr := rng (k + 1) u v h1 (by rw [pw]; exact h2) h3 (by rw [pw]; exact h4)
  rw [and_split (k + 1) x y u v h1 (by rw [pw]; exact h2) h3 (by rw [pw]; exact h4), and_split (k + 1) _ f _ (2 ^ (k + 1) - 1) hr.1.1 hr.1.2 (by omega) (by omega), kbt_mask, Int.emod_eq_of_lt hr.1.1 hr.1.2,
    xor_split (k + 1) x y u v h1 (by rw [pw]; exact h2) h3 (by rw [pw]; exact h4), and_split (k + 1) _ f (bitXor u v) (2 ^ (k + 1) - 1) hr.2.1.1 hr.2.1.2 (by omega) (by omega), kbt_mask, Int.emod_eq_of_lt hr.2.1.1 hr.2.1.2,
    not_split (k + 1) l 1, and_split (k + 1) _ _ (bitXor u v) (2 ^ (k + 1) - 1 - 1) hr.2.1.1 hr.2.1.2 (by omega) (by omega)]
  have hm := low_mean k u v h1 h2 h3 h4
  rw [← p1] at hm
  generalize bitAnd (bitAnd (bitXor x y) f) (bitNot l) = Z at *
  have e : (2 ^ (k + 1) * Z + bitAnd (bitXor u v) (2 ^ (k + 1) - 1 - 1)) / 2 = 2 ^ (k + 1) * (Z / 2) + bitAnd (bitXor u v) (2 ^ (k + 1) - 1 - 1) / 2 := by
    have hz : Z = 2 * (Z / 2) := by omega
    have : 2 ^ (k + 1) * Z = 2 * (2 ^ (k + 1) * (Z / 2)) := by
      conv => lhs; rw [hz]
      rw [Int.mul_left_comm]
    omega
  rw [e, Int.mul_add]
  omega
end Mine
end
section
open PySem PySem.W PyProof.Rows
open PySem.Builtin (bitAnd bitOr bitXor bitNot)
namespace Mine
def fullR : List Int → Int
  | [] => 0
  | w :: ws => 2 ^ w.toNat * fullR ws + (2 ^ w.toNat - 1)
def topsR : List Int → Int
  | [] => 0
  | w :: ws => 2 ^ w.toNat * topsR ws + 2 ^ (w.toNat - 1)
def restR : List Int → Int
  | [] => 0
  | w :: ws => 2 ^ w.toNat * restR ws + (2 ^ (w.toNat - 1) - 1)
def lowsR : List Int → Int
  | [] => 0
  | w :: ws => 2 ^ w.toNat * lowsR ws + 1
theorem zand (x : Int) : bitAnd 0 x = 0 := by rw [bitAnd_comm, bitAnd_zero]
theorem even_z : ∀ (ws : List Int) (x y : Int), (∀ n ∈ ws, 1 ≤ n ∧ n ≤ 6) → bitAnd (bitAnd (bitXor x y) (fullR ws)) (bitNot (lowsR ws)) % 2 = 0
  | [], x, y, _ => by simp only [fullR, bitAnd_zero, zand]; rfl
  | w :: ws, x, y, hw => by
    have h := hw w (List.mem_cons_self ..)
    obtain ⟨k, hk⟩ : ∃ k, w.toNat = k + 1 := ⟨w.toNat - 1, by omega⟩
    rw [kbt_halves]
    have e : bitNot (lowsR (w :: ws)) % 2 = 0 := by
      show (-(2 ^ w.toNat * lowsR ws + 1) - 1) % 2 = 0
      rw [hk, pw, Int.mul_assoc]; omega
    rw [e, if_neg (by omega)]; omega
theorem laid_cons (g : Int × Int × Int → Int) (x y w : Int) (ws : List Int) : laidOf ((tripOf x y (w :: ws)).map g) (w :: ws) = 2 ^ w.toNat * laidOf ((tripOf (x / 2 ^ w.toNat) (y / 2 ^ w.toNat) ws).map g) ws + g (x % 2 ^ w.toNat, y % 2 ^ w.toNat, 2 ^ w.toNat) := by
  show laidOf ((tripOf (x / 2 ^ w.toNat) (y / 2 ^ w.toNat) ws).map g) ws * 2 ^ w.toNat + g (x % 2 ^ w.toNat, y % 2 ^ w.toNat, 2 ^ w.toNat) = _
  rw [Int.mul_comm]
theorem swarR : ∀ (ws : List Int), (∀ n ∈ ws, 1 ≤ n ∧ n ≤ 6) → Swar ws (fullR ws) (restR ws) (topsR ws) (lowsR ws)
  | [], _ => fun x y => by
    simp only [fullR, restR, topsR, lowsR, takenE, bitAnd_zero, zand, xor0, or0]
    exact ⟨rfl, rfl, rfl, rfl⟩
  | w :: ws, hw => fun x y => by
    have h := hw w (List.mem_cons_self ..)
    obtain ⟨k, hk⟩ : ∃ k, w.toNat = k + 1 := ⟨w.toNat - 1, by omega⟩
    have hp := pwp (k + 1)
    have p1 := pw k
    obtain ⟨i1, i2, i3, i4⟩ := swarR ws (fun n hn => hw n (List.mem_cons_of_mem _ hn)) (x / 2 ^ (k + 1)) (y / 2 ^ (k + 1))
    have hev := even_z ws (x / 2 ^ (k + 1)) (y / 2 ^ (k + 1)) (fun n hn => hw n (List.mem_cons_of_mem _ hn))
    have ex : x = 2 ^ (k + 1) * (x / 2 ^ (k + 1)) + x % 2 ^ (k + 1) := (Int.mul_ediv_add_emod x (2 ^ (k + 1))).symm
    have ey : y = 2 ^ (k + 1) * (y / 2 ^ (k + 1)) + y % 2 ^ (k + 1) := (Int.mul_ediv_add_emod y (2 ^ (k + 1))).symm
    have u1 := Int.emod_nonneg x (show (2 : Int) ^ (k + 1) ≠ 0 by omega)
    have u2 := Int.emod_lt_of_pos x hp
    have v1 := Int.emod_nonneg y (show (2 : Int) ^ (k + 1) ≠ 0 by omega)
    have v2 := Int.emod_lt_of_pos y hp
    simp only [laid_cons, fullR, restR, topsR, lowsR, hk, Nat.add_sub_cancel]
    generalize x / 2 ^ (k + 1) = x' at *
    generalize y / 2 ^ (k + 1) = y' at *
    generalize x % 2 ^ (k + 1) = u at *
    generalize y % 2 ^ (k + 1) = v at *
    subst ex ey
    obtain ⟨hu, lu, rfl, c1, c2, c3, c4⟩ := parts k u1 (by rw [← p1]; exact u2)
    obtain ⟨hv, lv, rfl, d1, d2, d3, d4⟩ := parts k v1 (by rw [← p1]; exact v2)
    refine ⟨?_, ?_, ?_, ?_⟩
    · rw [add_step k x' y' (restR ws) (topsR ws) _ _ u1 (by rw [← p1]; exact u2) v1 (by rw [← p1]; exact v2), i1, p1]
    · rw [sub_step k x' y' (fullR ws) (restR ws) (topsR ws) hu lu hv lv c1 c2 c3 c4 d1 d2 d3 d4, i2, low_sub k hu hv lu lv c1 c2 d1 d2 c3 c4 d3 d4, p1]
    · rw [sub_step k x' y' (fullR ws) (restR ws) (topsR ws) hu lu hv lv c1 c2 c3 c4 d1 d2 d3 d4, less_step k x' y' _ (topsR ws) hu lu hv lv c1 c2 c3 c4 d1 d2 d3 d4, i3, p1]
    · rw [mean_step k x' y' (fullR ws) (lowsR ws) _ _ u1 (by rw [← p1]; exact u2) v1 (by rw [← p1]; exact v2) hev, i4]
theorem sumW_nonneg : ∀ (ws : List Int), (∀ n ∈ ws, 1 ≤ n ∧ n ≤ 6) → 0 ≤ ws.sum
  | [], _ => by decide
  | w :: ws, hw => by
    have h := hw w (List.mem_cons_self ..)
    have := sumW_nonneg ws fun n hn => hw n (List.mem_cons_of_mem _ hn)
    rw [List.sum_cons]; omega
theorem full_eq : ∀ (ws : List Int), (∀ n ∈ ws, 1 ≤ n ∧ n ≤ 6) → (2 : Int) ^ ws.sum.toNat = fullR ws + 1
  | [], _ => by decide
  | w :: ws, hw => by
    have h := hw w (List.mem_cons_self ..)
    have h2 := sumW_nonneg ws fun n hn => hw n (List.mem_cons_of_mem _ hn)
    have ih := full_eq ws fun n hn => hw n (List.mem_cons_of_mem _ hn)
    rw [List.sum_cons, show (w + ws.sum).toNat = w.toNat + ws.sum.toNat by omega, Int.pow_add, ih, fullR, Int.mul_add]
    omega
theorem rest_eq : ∀ (ws : List Int), (∀ n ∈ ws, 1 ≤ n ∧ n ≤ 6) → bitXor (fullR ws) (topsR ws) = restR ws
  | [], _ => by decide
  | w :: ws, hw => by
    have h := hw w (List.mem_cons_self ..)
    obtain ⟨k, hk⟩ : ∃ k, w.toNat = k + 1 := ⟨w.toNat - 1, by omega⟩
    have ih := rest_eq ws fun n hn => hw n (List.mem_cons_of_mem _ hn)
    have hp := pwp k
    have p1 := pw k
    simp only [fullR, topsR, restR, hk, Nat.add_sub_cancel]
    rw [xor_split (k + 1) _ _ (2 ^ (k + 1) - 1) (2 ^ k) (by omega) (by omega) (by omega) (by omega), ih]
    have := xor_split k 1 1 (2 ^ k - 1) 0 (by omega) (by omega) (by omega) hp
    rw [x11, Int.mul_zero, Int.zero_add, Int.add_zero, Int.mul_one, xor0, show (2 : Int) ^ k + (2 ^ k - 1) = 2 ^ (k + 1) - 1 by omega] at this
    rw [this]
theorem or_add (P : Nat) {l : Int} (h0 : 0 ≤ l) (h1 : l < 2 ^ P) : bitOr l (2 ^ P) = l + 2 ^ P := by
  have := or_split P 0 1 l 0 h0 h1 (by omega) (pwp P)
  rw [Int.mul_zero, Int.zero_add, Int.mul_one, Int.add_zero, o01, or0, Int.mul_one] at this
  rw [this, Int.add_comm]
theorem foldl_stp : ∀ (ws : List Int), (∀ n ∈ ws, 1 ≤ n ∧ n ≤ 6) → ∀ l p t : Int, 0 ≤ p → 0 ≤ l → l < 2 ^ p.toNat → 0 ≤ t → t < 2 ^ p.toNat →
    ws.foldl stp (l, p, t) = (l + 2 ^ p.toNat * lowsR ws, p + ws.sum, t + 2 ^ p.toNat * topsR ws)
  | [], _, l, p, t, _, _, _, _, _ => by simp [lowsR, topsR]
  | w :: ws, hw, l, p, t, h0, l0, l1, t0, t1 => by
    have h := hw w (List.mem_cons_self ..)
    obtain ⟨k, hk⟩ : ∃ k, w.toNat = k + 1 := ⟨w.toNat - 1, by omega⟩
    have q1 : (p + w).toNat = p.toNat + (k + 1) := by omega
    have q2 : (p + w - 1).toNat = p.toNat + k := by omega
    have hP := pwp p.toNat
    have hK : (1 : Int) ≤ 2 ^ k := by have := pwp k; omega
    have e1 : (2 : Int) ^ (p.toNat + (k + 1)) = 2 * (2 ^ p.toNat * 2 ^ k) := by rw [Int.pow_add, pw, Int.mul_left_comm]
    have e2 : (2 : Int) ^ (p.toNat + k) = 2 ^ p.toNat * 2 ^ k := by rw [Int.pow_add]
    have e3 : (2 : Int) ^ p.toNat ≤ 2 ^ p.toNat * 2 ^ k := by
      have := Int.mul_le_mul_of_nonneg_left hK (Int.le_of_lt hP)
      rw [Int.mul_one] at this; exact this
    show ws.foldl stp (bitOr l (2 ^ p.toNat), p + w, bitOr t (2 ^ (p + w - 1).toNat)) = _
    rw [q2, or_add p.toNat l0 l1, or_add (p.toNat + k) t0 (by omega), foldl_stp ws (fun n hn => hw n (List.mem_cons_of_mem _ hn)) _ _ _ (by omega) (by omega) (by rw [q1]; omega) (by omega) (by rw [q1]; omega), q1]
    simp only [lowsR, topsR, hk, Nat.add_sub_cancel, List.sum_cons]
    refine Prod.ext ?_ (Prod.ext ?_ ?_)
    · show l + 2 ^ p.toNat + 2 ^ (p.toNat + (k + 1)) * lowsR ws = l + 2 ^ p.toNat * (2 ^ (k + 1) * lowsR ws + 1)
      rw [Int.pow_add, Int.mul_add, Int.mul_assoc]; omega
    · show p + w + ws.sum = p + (w + ws.sum)
      omega
    · show t + 2 ^ (p.toNat + k) + 2 ^ (p.toNat + (k + 1)) * topsR ws = t + 2 ^ p.toNat * (2 ^ (k + 1) * topsR ws + 2 ^ k)
      rw [Int.pow_add, Int.pow_add, Int.mul_add, Int.mul_assoc]; omega
theorem swar_ok (ws : List Int) (hw : ∀ n ∈ ws, 1 ≤ n ∧ n ≤ 6) : ∀ l p t, (l, p, t) = ws.foldl stp (0, 0, 0) → Swar ws (2 ^ p.toNat - 1) (bitXor (2 ^ p.toNat - 1) t) t l := by
  intro l p t e
  rw [foldl_stp ws hw 0 0 0 (by decide) (by decide) (by decide) (by decide) (by decide)] at e
  simp only [Int.toNat_zero, Int.pow_zero, Int.one_mul, Int.zero_add, Prod.mk.injEq] at e
  obtain ⟨rfl, rfl, rfl⟩ := e
  rw [full_eq ws hw, show fullR ws + 1 - 1 = fullR ws by omega, rest_eq ws hw]
  exact swarR ws hw
end Mine
end
section
open PySem PySem.W PyProof.Rows
set_option maxRecDepth 100000
set_option maxHeartbeats 8000000
namespace Mine
section
variable {prog : Program} {w : World} {A : Around} {R : GenEnd} {Y : Protocol} {n : Nat} {s₀ : Shared} {c : Code} {fs : List Frame} {s : Shared} {env : Env}
  {K : Flow → Sem Fin} {H : Value → Sem Fin} {gd : Bool → Bool} {lv : List Value → List Value}
abbrev ownK (env : Env) (K : Flow → Sem Fin) (H : Value → Sem Fin) (gd : Bool → Bool) (lv : List Value → List Value) : Result → Sem Fin := fun r =>
  ((match r with | .ok f => (.pure f : Sem Flow) | .error e => .raise e).onRaise fun (x : Value) => do
        if (← field x 1) == Value.none then unsupported "frame.own-activation:exception-without-traceback"
        setFlight x env.frame).wrap K H gd lv
theorem seg_For {target iter : Expr} {body orelse : List Stmt} {pos : Pos}
    (h : wpAny (model prog w) (A.over c fs) (eval iter env) (fun xv s₁ => wpAny (model prog w) (A.over c fs) (pyIter xv) (fun it s₂ =>
      ∀ p, Seg (model prog w) A R Y n s₀ (.forLoop target it body orelse env) ((model prog w).den (.forLoop target it body orelse env)) (.ret (ownK env K H gd lv) none (gd false) (lv []) c p [] :: fs) s₂) (fun _ _ => False) s₁) (fun _ _ => False) s)
    (hs : ∀ x, foldedSetIterable iter env x = pure x) :
    Seg (model prog w) A R Y n s₀ c ((exec (.For target iter body orelse pos) env).wrap K H gd lv) fs s := by
  rw [exec_For]
  refine seg_bind_wrap (wpAny_standAt ?_)
  refine seg_bind_wrap (wpAny_mono h (fun xv s₁ h₁ => ?_) fun _ _ e => e.elim)
  refine seg_bind_wrap (wpAny_of_eq (hs xv) ?_)
  refine seg_bind_wrap (wpAny_standAt ?_)
  refine seg_bind_wrap (wpAny_holding (wpAny_mono h₁ (fun it s₂ h₂ => ?_) fun _ _ e => e.elim))
  exact seg_call h₂
abbrev loopK (code : Code) : Flow → Sem Fin := fun f => match f with
  | .next | .cont => .pure (.again code)
  | .brk => .pure (.done .next)
  | .ret v => .pure (.done (.ret v))
abbrev loopH (env : Env) : Value → Sem Fin := fun e => (do noteFrame e env; theTreesLotGoes e : Sem Unit).wrap (fun _ => .raise e) .raise id id
theorem seg_forLoop {target : Expr} {it : Value} {body orelse : List Stmt}
    (h : wpAny (model prog w) (A.over (.forLoop target it body orelse env) fs) (pyNext it) (fun r s₁ => match r with
      | none => Seg (model prog w) A R Y n s₀ (.block orelse env) ((model prog w).den (.block orelse env)) fs s₁
      | some v => wpAny (model prog w) (A.over (.forLoop target it body orelse env) fs) (assign target env v) (fun _ s₂ =>
          Seg (model prog w) A R Y n s₀ (.forLoop target it body orelse env) ((execs body env).wrap (loopK (.forLoop target it body orelse env)) (loopH env) id id) fs s₂) (fun _ _ => False) s₁) (fun _ _ => False) s)
    (ht : ∀ v, letOwnedTupleGo target it v = pure ()) :
    Seg (model prog w) A R Y n s₀ (.forLoop target it body orelse env) ((model prog w).den (.forLoop target it body orelse env)) fs s := by
  show Seg _ A R Y n s₀ _ ((forTurn target it body orelse env).onRaise (fun x => do noteFrame x env; theTreesLotGoes x)) fs s
  unfold forTurn
  rw [Sem.onRaise_eq_wrap]
  refine seg_bind_wrap (wpAny_standAt ?_)
  refine seg_bind_wrap (wpAny_onRaise (wpAny_mono h (fun r s₁ h₁ => ?_) fun _ _ e => e.elim))
  cases r with
  | none => exact seg_again rfl h₁
  | some v =>
    refine seg_bind_wrap (wpAny_of_eq (ht v) ?_)
    refine seg_bind_wrap (wpAny_mono h₁ (fun _ s₂ h₂ => ?_) fun _ _ e => e.elim)
    rw [Sem.bind_eq_wrap', Sem.wrap_wrap]
    rw [Sem.wrap_congr (execs body env) _ _ (K' := loopK (.forLoop target it body orelse env)) (H' := loopH env) (fun f => by cases f <;> rfl)
      (fun e => by first | exact Sem.bind_eq_wrap _ _ | (show (do noteFrame e env; theTreesLotGoes e : Sem Unit).bind (fun _ => .raise e) = _; rw [Sem.bind_eq_wrap]))]
    exact h₂
theorem seg_blockNil (h : Seg (model prog w) A R Y n s₀ (.block [] env) (leafOf (.ok .next)) fs s) : Seg (model prog w) A R Y n s₀ (.block [] env) ((model prog w).den (.block [] env)) fs s := h
theorem seg_If {test : Expr} {body orelse : List Stmt} {pos : Pos}
    (h : wpAny (model prog w) (A.over c fs) (isTrue test env (eval test env)) (fun b s' => if b = true then Seg (model prog w) A R Y n s₀ c ((execs body env).wrap K H gd lv) fs s' else Seg (model prog w) A R Y n s₀ c ((execs orelse env).wrap K H gd lv) fs s') (fun _ _ => False) s) :
    Seg (model prog w) A R Y n s₀ c ((exec (.If test body orelse pos) env).wrap K H gd lv) fs s := by
  rw [exec_If]
  refine seg_bind_wrap (wpAny_standAt ?_)
  refine seg_bind_wrap (wpAny_mono h (fun b s' hb => ?_) fun _ _ e => e.elim)
  cases b <;> exact hb
theorem seg_plain {st : Stmt} (h : wpAny (model prog w) (A.over c fs) (exec st env) (fun f s' => Seg (model prog w) A R Y n s₀ c (K f) fs s') (fun _ _ => False) s) :
    Seg (model prog w) A R Y n s₀ c ((exec st env).wrap K H gd lv) fs s := seg_wrap (wpAny_mono h (fun _ _ x => x) fun _ _ e => e.elim)
end
section
variable {prog : Program} {w : World} {A : Around} {E : Value → Shared → Prop} {s : Shared}
theorem raiseStop {s₁ : Shared} {Q : Option Value → Shared → Prop} (hh : A.handled = none) (hQ : ∀ h', (∀ b o, s₁.heap.get? b = some o → h'.get? b = some o) → Q none { s₁ with heap := h' }) :
    wpAny (model prog w) A.in1 (do let e ← newExc (.type "StopIteration") []; (raiseNew e : Sem Fin)) (fun _ _ => False) (fun e s' => (∃ o a, e = .ref a ∧ s'.heap.get? a = some o ∧ o.cls = .type "StopIteration") ∧ Q none s') s₁ := by
  refine wpAny_bind ?_
  simp only [newExc, newTuple]
  refine wpAny_bind (wpAny_newObj_type ?_ (by size_fits))
  refine wpAny_bind (m := firstArgMember _ _) (wpAny_of_eq (a := Value.none) (by first | rfl | (simp only [firstArgMember]; rfl)) ?_)
  refine wpAny_newObj_type ?_ (by size_fits)
  simp only [raiseNew]
  refine wpAny_bind (wpAny_handled ?_)
  rw [show A.in1.handled = none from hh]
  refine wpAny_throw ?_
  exact ⟨⟨_, _, rfl, Heap.get?_push_size _ rfl, rfl⟩, hQ _ fun b o e => Heap.get?_push_of_some _ (Heap.get?_push_of_some _ e)⟩
end
end Mine
end
section
open PySem PySem.W PySem.Calls PyProof.Rows
set_option maxRecDepth 100000
set_option maxHeartbeats 8000000
namespace Mine
section
variable {prog : Program} {w : World} {A : Around} {E : Value → Shared → Prop} {s : Shared}
theorem resume_fin {M : Model} {α : Type} {g : Nat} {r : Resume} {l : List Value} {k : GenResult → Sem α} {Q : α → Shared → Prop} (hg : s.gens[g]? = some .finished) (h : wpAny M A (k .finished) Q E s) : wpAny M A (.resume g r l k) Q E s := by
  intro Γ p hΓ
  rw [Sem.wp_resume]
  exact ⟨.finished, s, by unfold Wakes; rw [hg]; exact ⟨rfl, rfl⟩, h Γ p hΓ⟩
theorem pyNext_gen {a : Addr} {Q : Option Value → Shared → Prop} {g : Nat} (hg : s.heap.IsGen a g)
    (h : wpAny (model prog w) A.in1 (Builtin.Generator.genWake (.ref a) (.send .none)) (fun fin s' => ∃ v, fin = .done (.ret v) ∧ Q (some v) s')
      (fun e s' => (∃ o b, e = .ref b ∧ s'.heap.get? b = some o ∧ o.cls = .type "StopIteration") ∧ Q none s') s) : wpAny (model prog w) A (pyNext (.ref a)) Q E s := by
  unfold pyNext
  refine wpAny_bind (wpAny_attempt (wpAny_callSpecial?_slot (name := Str.ofString "__next__") hg.typeIs slot_gen_next
    (wpAny_call_entry slot_gen_next hg.typeIs entry_gen_next ?_ (args_gen_next _))))
  show wpAny _ A.in1 (Builtin.Generator.genWake (.ref a) (.send .none)) _ _ s
  refine wpAny_mono h (fun fin s' h' => ?_) fun e s' h' => ?_
  · obtain ⟨v, rfl, hq⟩ := h'
    exact ⟨v, rfl, wpAny_pure hq⟩
  · obtain ⟨⟨o, b, rfl, ho, hc⟩, hq⟩ := h'
    refine wpAny_bind (wpAny_isInstance (T := "StopIteration") (b := true) ⟨o, ho, hc⟩ isSubtype_stop ?_)
    exact wpAny_pure hq
theorem pyNext_fn {a : Addr} {g n : Nat} {gs : GenState} {P : Nat → Shared → Shared → Prop} {Y : Protocol} {Q : Option Value → Shared → Prop} (hh : A.handled = none)
    (hl : s.heap.NoLimit) (hroom : A.depth < recursionLimit) (hg : s.heap.IsGen a g) (hgs : s.gens[g]? = some gs)
    (hgo : gs.Goes (model prog w) A.in1 (fun n s₀ r s₁ => r = .ok (.ret .none) ∧ P n s₀ s₁) Y n (.send .none) (s.setGen g .running))
    (hY : ∀ v s₁ gs', gs'.bare = true → Y (n - 1) (s.setGen g .running) v s₁ (fun r' s'' => match n with
        | 0 => False
        | m + 1 => gs'.Goes (model prog w) A.in1 (fun n s₀ r s₁ => r = .ok (.ret .none) ∧ P n s₀ s₁) Y m r' s'') → Q (some v) (s₁.setGen g gs'))
    (hP : ∀ s₁, P n (s.setGen g .running) s₁ → ∀ h', (∀ b o, s₁.heap.get? b = some o → h'.get? b = some o) → Q none { s₁.setGen g .finished with heap := h' }) :
    wpAny (model prog w) A (pyNext (.ref a)) Q E s := by
  refine pyNext_gen hg ?_
  unfold Builtin.Generator.genWake
  refine wpAny_bind (wpAny_holding (wpAny_genNumber hg (wpAny_bind (wpAny_genState hgs ?_))))
  cases gs with
  | running => exact hgo.elim
  | finished => exact hgo.elim
  | _ =>
    refine wpAny_bind (wpAny_roomToWake hl hroom ?_)
    show wpAny _ A.in1 (.resume g (.send .none) [] _) _ _ s
    refine wpAny_resumeQ hgs hgo (fun x s₁ hx => ?_) (fun v s₁ gs' hb hv => ?_)
    · obtain ⟨rfl, hp⟩ := hx
      show wpAny _ A.in1 (newExc (.type "StopIteration") [] >>= _) _ _ _
      refine wpAny_bind ?_
      simp only [newExc, newTuple]
      refine wpAny_bind (wpAny_newObj_type ?_ (by size_fits))
      refine wpAny_bind (m := firstArgMember _ _) (wpAny_of_eq (a := Value.none) (by first | rfl | (simp only [firstArgMember]; rfl)) ?_)
      refine wpAny_newObj_type ?_ (by size_fits)
      simp only [raiseNew]
      refine wpAny_bind (wpAny_bind (wpAny_handled ?_))
      rw [show A.in1.handled = none from hh]
      refine wpAny_throw ?_
      exact ⟨⟨_, _, rfl, Heap.get?_push_size _ rfl, rfl⟩, hP s₁ hp _ fun b o e => Heap.get?_push_of_some _ (Heap.get?_push_of_some _ e)⟩
    · exact wpAny_pure ⟨v, rfl, hY v s₁ gs' hb hv⟩
theorem pyNext_fin {a : Addr} {g : Nat} {Q : Option Value → Shared → Prop} (hh : A.handled = none) (hg : s.heap.IsGen a g) (hgs : s.gens[g]? = some .finished)
    (hQ : ∀ h', (∀ b o, s.heap.get? b = some o → h'.get? b = some o) → Q none { s with heap := h' }) : wpAny (model prog w) A (pyNext (.ref a)) Q E s := by
  refine pyNext_gen hg ?_
  unfold Builtin.Generator.genWake
  refine wpAny_bind (wpAny_holding (wpAny_genNumber hg (wpAny_bind (wpAny_genState hgs ?_))))
  show wpAny _ A.in1 (.resume g (.send .none) [] _) _ _ s
  refine resume_fin hgs ?_
  show wpAny _ A.in1 (newExc (.type "StopIteration") [] >>= _) _ _ _
  refine wpAny_bind ?_
  simp only [newExc, newTuple]
  refine wpAny_bind (wpAny_newObj_type ?_ (by size_fits))
  refine wpAny_bind (m := firstArgMember _ _) (wpAny_of_eq (a := Value.none) (by first | rfl | (simp only [firstArgMember]; rfl)) ?_)
  refine wpAny_newObj_type ?_ (by size_fits)
  simp only [raiseNew]
  refine wpAny_bind (wpAny_handled ?_)
  rw [show A.in1.handled = none from hh]
  first
    | refine wpAny_throw ?_
    | refine wpAny_pure (wpAny_throw ?_)
    | refine wpAny_bind (wpAny_pure (wpAny_throw ?_))
  exact ⟨⟨_, _, rfl, Heap.get?_push_size _ rfl, rfl⟩, hQ _ fun b o e => Heap.get?_push_of_some _ (Heap.get?_push_of_some _ e)⟩
theorem call_next2 {a : Addr} {g : Nat} {d : Value} {Q : Value → Shared → Prop} (hg : s.heap.IsGen a g)
    (h : wpAny (model prog w) A.in1 (pyNext (.ref a)) (fun r s' => Q (r.getD d) s') E s) : wpAny (model prog w) A (call (.builtin "next") [.ref a, d]) Q E s := by
  refine call_function_entry (by decide +kernel) (by decide +kernel) kdk_entry_next (kdk_args_next2 _ _) ?_
  unfold Builtin.«next»
  refine wpAny_bind (m := someArgs "next" 1 2 _) (wpAny_of_eq (a := [Value.ref a, d]) (by first | rfl | kernel_rfl!) ?_)
  dsimp only
  refine wpAny_bind (wpAny_specialOf (name := Str.ofString "__next__") hg.typeIs slot_gen_next.lookup ?_)
  refine wpAny_ite_split (fun hab => absurd hab (by decide)) (fun _ => ?_)
  refine wpAny_bind (wpAny_mono h (fun r s' hq => ?_) fun _ _ e => e)
  exact wpAny_pure ⟨_, rfl, hq⟩
end
end Mine
end
section
open PySem PySem.W PySem.Calls PyProof.Rows
set_option maxRecDepth 100000
set_option maxHeartbeats 2000000
namespace Mine
def gS : Stmt := nthS PySem.Challenge.rw_pg0033_01.row.prog.main.body 11
def gBody : List Stmt := defBody gS
def gScope : Scope := defScope gS
def gFor : List Stmt := forBody (nthS gBody 1)
abbrev gEnv (C : Addr) (cd : Value) : Env := envOf (Str.ofString "_grouping_intervals") gScope C 77 cd
section
variable {C : Addr} {cd : Value}
theorem gk_last : (gEnv C cd).kindOf (Str.ofString "last_interval") = some .local := rfl
theorem gk_int : (gEnv C cd).kindOf (Str.ofString "interval") = some .local := rfl
theorem gk_grp : (gEnv C cd).kindOf (Str.ofString "grouping") = some .local := rfl
theorem gk_max : (gEnv C cd).kindOf (Str.ofString "CHAR_MAX") = some .globalImplicit := rfl
theorem gk_pl : ((gEnv C cd).scope.kind == .class || ((gEnv C cd).scope.kind == .module && (gEnv C cd).locals != (gEnv C cd).globals)) = false := rfl
end
def NotIt (o : Obj) : Prop := ∀ l i, o.cls = .type "list_iterator" → o.data ≠ .fields #[.ref l, .int i 0]
def Kp (h₀ : Heap) (C : Addr) (s₀ s₁ : Shared) : Prop := ∃ h' tk, s₁ = { s₀ with heap := h', toks := tk } ∧ ∀ b o, b ≠ C → (NotIt o ∨ h₀.get? b ≠ none) → s₀.heap.get? b = some o → h'.get? b = some o
theorem Kp.refl (h₀ : Heap) (C : Addr) (s : Shared) : Kp h₀ C s s := ⟨s.heap, s.toks, rfl, fun _ _ _ _ e => e⟩
theorem Kp.step {h₀ : Heap} {C : Addr} {s₀ s : Shared} (x : Kp h₀ C s₀ s) {h' : Heap} {tk : Nat} (hk : ∀ b o, b ≠ C → (NotIt o ∨ h₀.get? b ≠ none) → s.heap.get? b = some o → h'.get? b = some o) : Kp h₀ C s₀ { s with heap := h', toks := tk } := by
  obtain ⟨h₁, tk₁, rfl, hk₁⟩ := x
  exact ⟨h', tk, rfl, fun b o hC hw e => hk b o hC hw (hk₁ b o hC hw e)⟩
structure OutOk (its : List Int) (out : Nat → Option Int) (nz : Nat) : Prop where
  stop : ∀ i, i ≤ nz → its[i]? = none → out i = none
  maxx : ∀ i, i ≤ nz → its[i]? = some 127 → out i = none
  zero : ∀ i, i ≤ nz → its[i]? = some 0 → 0 < i ∧ ∃ x, its[i - 1]? = some x ∧ ∀ j, i ≤ j → out j = some x
  item : ∀ i x, i ≤ nz → its[i]? = some x → x ≠ 0 → x ≠ 127 → out i = some x ∧ i + 1 ≤ nz
def FpOk (h₀ : Heap) (L C gl : Addr) (h : Heap) (fp : List (Addr × Obj)) : Prop :=
  ∀ p ∈ fp, h.get? p.1 = some p.2 ∧ p.1 ≠ L ∧ h₀.get? p.1 = none ∧ (p.1 = C ∨ p.1 = gl ∨ p.2.cls = .type "list_iterator")
def gY (h₀ : Heap) (L C gl : Addr) (out : Nat → Option Int) : Protocol := fun m s₀ v s₁ kap =>
  (∃ x t, out (7 - m) = some x ∧ v = .int x t) ∧ Kp h₀ C s₀ s₁ ∧
    (0 < m → ∃ fp, FpOk h₀ L C gl s₁.heap fp ∧ ∀ s'' : Shared, (∀ b o, h₀.get? b = some o → s''.heap.get? b = some o) → (∀ p ∈ fp, s''.heap.get? p.1 = some p.2) → kap (.send .none) s'')
abbrev gP (h₀ : Heap) (C : Addr) (out : Nat → Option Int) : Nat → Shared → Shared → Prop := fun n s₀ s₁ => out (8 - n) = none ∧ Kp h₀ C s₀ s₁
abbrev gR (h₀ : Heap) (C : Addr) (out : Nat → Option Int) : GenEnd := fun n s₀ r s₁ => r = .ok (.ret .none) ∧ gP h₀ C out n s₀ s₁
section
variable {prog : Program} {w : World} {A : Around} {h₀ : Heap} {L C gl : Addr} {cd : Value} {out : Nat → Option Int} {its : List Int} {us : List Value}
theorem over_handled {c : Code} {k g l c₁ p₁ kp} {fs : List Frame} (h : (A.over c fs).handled = none) : (A.over c (.ret k none g l c₁ p₁ kp :: fs)).handled = none := by
  have h' : (marksOver fs (A.handled, A.handled)).1 = none := h
  show (Frame.marks (.ret k none g l c₁ p₁ kp) (marksOver fs (A.handled, A.handled))).1 = none
  simp only [Frame.marks]
  first | exact h' | (simp [markOver, h'])
/-- the while True loop -/
theorem seg_while {fs : List Frame} {pp py pw : Pos} (hfs : splitAtGen fs = none) (hfg : fs.any Frame.guarded = false) (hL : L < C) {x : Int} {t : Tok} {i : Nat} (ho : ∀ j, i ≤ j → out j = some x) :
    ∀ (n : Nat) (s₀ s : Shared) (m : Str → Option Value), n ≤ 7 → i ≤ 7 - n → Fr h₀ C s.heap m → m (Str.ofString "last_interval") = some (.int x t) → Kp h₀ C s₀ s →
      Seg (model prog w) A (gR h₀ C out) (gY h₀ L C gl out) (n + 1) s₀
        (.whileLoop (.Constant (.bool true) 0 pp) [.Expr (.Yield (some (.Name (Str.ofString "last_interval") pw)) py) py] [] (gEnv C cd))
        ((model prog w).den (.whileLoop (.Constant (.bool true) 0 pp) [.Expr (.Yield (some (.Name (Str.ofString "last_interval") pw)) py) py] [] (gEnv C cd))) fs s := by
  intro n
  induction n with
  | zero =>
    intro s₀ s m hn hi F hm hk
    refine seg_whileLoop (wpAny_isTrue_value (wpAny_Constant_bool (wpAny_truthy_bool ?_)))
    rw [if_pos rfl]
    refine seg_execs_cons (seg_Expr_Yield hfs rfl hfg ?_)
    refine ld F hm ?_ (by decide) gk_last
    intro kap _
    exact ⟨⟨x, t, ho _ hi, rfl⟩, hk, fun h => absurd h (by decide)⟩
  | succ n ih =>
    intro s₀ s m hn hi F hm hk
    refine seg_whileLoop (wpAny_isTrue_value (wpAny_Constant_bool (wpAny_truthy_bool ?_)))
    rw [if_pos rfl]
    refine seg_execs_cons (seg_Expr_Yield hfs rfl hfg ?_)
    refine ld F hm ?_ (by decide) gk_last
    intro kap hkap
    refine ⟨⟨x, t, ho _ hi, rfl⟩, hk, fun _ => ?_⟩
    obtain ⟨oC, es, ep, hoC, hdC, hsC, hfC⟩ := F.ns
    refine ⟨[(C, oC)], fun p hp => ?_, fun s'' hk0 hal => hkap .none s'' ?_⟩
    · rw [List.mem_singleton.mp hp]
      exact ⟨hoC, Nat.ne_of_gt hL, Heap.get?_none_of_le F.above, .inl rfl⟩
    · refine seg_execs_nil (seg_again rfl ?_)
      exact ih s'' s'' m (by omega) (by omega) ⟨⟨oC, es, ep, hal _ (List.mem_singleton.mpr rfl), hdC, hsC, hfC⟩, hk0, F.above⟩ hm (Kp.refl _ _ _)
end
end Mine
end
section
open PySem PySem.W PySem.Calls PyProof.Rows
set_option maxRecDepth 100000
set_option maxHeartbeats 2000000
namespace Mine
def gIf1 : Stmt := nthS gFor 0
def gIf2 : Stmt := nthS gFor 1
def ifTest : Stmt → Expr
  | .If t _ _ _ => t
  | _ => default
def ifBody : Stmt → List Stmt
  | .If _ b _ _ => b
  | _ => []
def gIf3 : Stmt := nthS (ifBody gIf2) 0
section
variable {w : World} {A : Around} {h₀ : Heap} {C : Addr} {cd : Value} {mean : ExcName → Option Value} {mg mb : Str → Option Value}
theorem g_test1 {m : Str → Option Value} {s : Shared} {x : Int} {tx : Tok} {Q : Bool → Shared → Prop} {E : Value → Shared → Prop}
    (F : Fr h₀ C s.heap (kstB m [(Str.ofString "interval", .int x tx)])) (N : News h₀ C s.heap []) (T : Top hd.view_39 (looseW hd.view_39 []) mean mg mb h₀)
    (hQ : Q (x == 127) s) : (hd.heap_39 w.params).In h₀ →
    wpAny (model PySem.Challenge.rw_pg0033_01.row.prog w) A (isTrue (ifTest gIf1) (gEnv C cd) (eval (ifTest gIf1) (gEnv C cd))) Q E s := by
  k_with_none
  w_top off
  k_fill
  intro X
  conv in (occs := *) gIf1 => all_goals whnf
  dsimp only [ifTest, gEnv]
  conv in (occs := *) gScope => all_goals whnf
  dsimp only [kstB] at F
  w_strict (
    k_steps
    all_goals exact hQ)
theorem g_test2 {m : Str → Option Value} {s : Shared} {x : Int} {tx : Tok} {Q : Bool → Shared → Prop} {E : Value → Shared → Prop}
    (F : Fr h₀ C s.heap (kstB m [(Str.ofString "interval", .int x tx)])) (N : News h₀ C s.heap []) (T : Top hd.view_39 (looseW hd.view_39 []) mean mg mb h₀)
    (hQ : ∀ tk, Q (x == 0) { s with toks := tk }) : (hd.heap_39 w.params).In h₀ →
    wpAny (model PySem.Challenge.rw_pg0033_01.row.prog w) A (isTrue (ifTest gIf2) (gEnv C cd) (eval (ifTest gIf2) (gEnv C cd))) Q E s := by
  k_with_none
  w_top off
  k_fill
  intro X
  conv in (occs := *) gIf2 => all_goals whnf
  dsimp only [ifTest, gEnv]
  conv in (occs := *) gScope => all_goals whnf
  dsimp only [kstB] at F
  w_strict (
    k_steps
    all_goals exact hQ _)
theorem g_test3 {m : Str → Option Value} {s : Shared} {x : Int} {tx : Tok} {Q : Bool → Shared → Prop} {E : Value → Shared → Prop}
    (F : Fr h₀ C s.heap (kstB m [(Str.ofString "last_interval", .int x tx)])) (N : News h₀ C s.heap []) (T : Top hd.view_39 (looseW hd.view_39 []) mean mg mb h₀)
    (hQ : ∀ tk, Q false { s with toks := tk }) : (hd.heap_39 w.params).In h₀ →
    wpAny (model PySem.Challenge.rw_pg0033_01.row.prog w) A (isTrue (ifTest gIf3) (gEnv C cd) (eval (ifTest gIf3) (gEnv C cd))) Q E s := by
  k_with_none
  w_top off
  k_fill
  intro X
  conv in (occs := *) gIf3 => all_goals whnf
  dsimp only [ifTest, gEnv]
  conv in (occs := *) gScope => all_goals whnf
  dsimp only [kstB] at F
  w_strict (
    k_steps
    all_goals exact hQ _)
end
theorem gFor_eq : gFor = [.If (ifTest gIf1) [.Return none ⟨24, 12, 24, 18⟩] [] ⟨23, 8, 24, 18⟩,
    .If (ifTest gIf2) [.If (ifTest gIf3) (ifBody gIf3) [] ⟨26, 12, 27, 52⟩,
      .While (.Constant (.bool true) 0 ⟨28, 18, 28, 22⟩) [.Expr (.Yield (some (.Name (Str.ofString "last_interval") ⟨29, 22, 29, 35⟩)) ⟨29, 16, 29, 35⟩) ⟨29, 16, 29, 35⟩] [] ⟨28, 12, 29, 35⟩] [] ⟨25, 8, 29, 35⟩,
    .Expr (.Yield (some (.Name (Str.ofString "interval") ⟨30, 14, 30, 22⟩)) ⟨30, 8, 30, 22⟩) ⟨30, 8, 30, 22⟩,
    .Assign [.Name (Str.ofString "last_interval") ⟨31, 8, 31, 21⟩] (.Name (Str.ofString "interval") ⟨31, 24, 31, 32⟩) ⟨31, 8, 31, 32⟩] := rfl
theorem execs_gFor (env : Env) : execs gFor env = execs [.If (ifTest gIf1) [.Return none ⟨24, 12, 24, 18⟩] [] ⟨23, 8, 24, 18⟩,
    .If (ifTest gIf2) [.If (ifTest gIf3) (ifBody gIf3) [] ⟨26, 12, 27, 52⟩,
      .While (.Constant (.bool true) 0 ⟨28, 18, 28, 22⟩) [.Expr (.Yield (some (.Name (Str.ofString "last_interval") ⟨29, 22, 29, 35⟩)) ⟨29, 16, 29, 35⟩) ⟨29, 16, 29, 35⟩] [] ⟨28, 12, 29, 35⟩] [] ⟨25, 8, 29, 35⟩,
    .Expr (.Yield (some (.Name (Str.ofString "interval") ⟨30, 14, 30, 22⟩)) ⟨30, 8, 30, 22⟩) ⟨30, 8, 30, 22⟩,
    .Assign [.Name (Str.ofString "last_interval") ⟨31, 8, 31, 21⟩] (.Name (Str.ofString "interval") ⟨31, 24, 31, 32⟩) ⟨31, 8, 31, 32⟩] env := congrArg (fun b => execs b env) gFor_eq
theorem gBody_eq : gBody = [.Assign [.Name (Str.ofString "last_interval") ⟨21, 4, 21, 17⟩] (.Constant .none 0 ⟨21, 20, 21, 24⟩) ⟨21, 4, 21, 24⟩,
    .For (.Name (Str.ofString "interval") ⟨22, 8, 22, 16⟩) (.Name (Str.ofString "grouping") ⟨22, 20, 22, 28⟩) gFor [] (match nthS gBody 1 with | .For _ _ _ _ p => p | _ => default)] := rfl
end Mine
end
section
open PySem PySem.W PySem.Calls PyProof.Rows
set_option maxRecDepth 100000
set_option maxHeartbeats 2000000
namespace Mine
section
variable {w : World} {A : Around} {h₀ : Heap} {L C gl : Addr} {cd : Value} {out : Nat → Option Int} {its : List Int} {nz : Nat} {us : List Value} {mean : ExcName → Option Value} {mg mb : Str → Option Value}
theorem FrI {h : Heap} {m : Str → Option Value} {v : Value} (F : Fr h₀ C h (fun z => if z = Str.ofString "interval" then some v else m z)) : Fr h₀ C h (kstB m [(Str.ofString "interval", v)]) := F
theorem FrL {h : Heap} {m : Str → Option Value} {v : Value} (F : Fr h₀ C h m) (hm : m (Str.ofString "last_interval") = some v) : Fr h₀ C h (kstB m [(Str.ofString "last_interval", v)]) := by
  have e : kstB m [(Str.ofString "last_interval", v)] = m := by
    funext z
    show (if z = Str.ofString "last_interval" then some v else m z) = m z
    by_cases h : z = Str.ofString "last_interval"
    · rw [if_pos h, h, hm]
    · rw [if_neg h]
  rw [e]; exact F
theorem seg_turns {pt : Pos} {kk : Result → Sem Fin} {c : Code} {p : Pos} {l : List Value} (hh : A.handled = none) (T : Top hd.view_39 (looseW hd.view_39 []) mean mg mb h₀) (X : (hd.heap_39 w.params).In h₀)
    (hL : L < C) (hgC : gl ≠ C) (hgL : gl ≠ L) (hg0 : h₀.get? gl = none) (O : OutOk its out nz) (hI : IntsAre us its)
    (hk1 : kk (.ok .next) = leafOf (.ok (.ret .none))) (hk2 : kk (.ok (.ret .none)) = leafOf (.ok (.ret .none))) :
    ∀ (n i : Nat) (s₀ s : Shared) (m : Str → Option Value) (I : Addr), i + n = 7 → i ≤ nz → Fr h₀ C s.heap m → s.heap.IsListIter I gl i → s.heap.IsList gl us.toArray → I ≠ C → I ≠ gl → I ≠ L → h₀.get? I = none →
      (∀ x, 0 < i → its[i - 1]? = some x → ∃ t, m (Str.ofString "last_interval") = some (.int x t)) → Kp h₀ C s₀ s →
      Seg (model PySem.Challenge.rw_pg0033_01.row.prog w) A (gR h₀ C out) (gY h₀ L C gl out) (n + 1) s₀
        (.forLoop (.Name (Str.ofString "interval") pt) (.ref I) gFor [] (gEnv C cd))
        ((model PySem.Challenge.rw_pg0033_01.row.prog w).den (.forLoop (.Name (Str.ofString "interval") pt) (.ref I) gFor [] (gEnv C cd))) [.ret kk none false l c p []] s := by
  intro n
  induction n using Nat.strongRecOn with
  | ind n ih =>
    intro i s₀ s m I hin hiz F it ls hIC hIg hIL hI0 hlast hk
    have hfs : splitAtGen [Frame.ret kk none false l c p []] = none := rfl
    have hfg : [Frame.ret kk none false l c p []].any Frame.guarded = false := rfl
    refine seg_forLoop ?_ (fun v => rfl)
    cases hx : us.toArray[i]? with
    | none =>
      refine wpAny_pyNext_list_end (over_handled (fs := []) hh) it ls hx (fun h' he => ?_)
      refine seg_blockNil (seg_leaf _ ?_)
      rw [hk1]
      refine seg_end _ ⟨rfl, ?_, hk.step fun b o _ hc e => he b o (fun hb => ?_) e⟩
      · rw [show 8 - (n + 1) = i by omega]
        refine O.stop i hiz ?_
        rw [List.getElem?_eq_none_iff, ← hI.length]
        rw [List.getElem?_toArray, List.getElem?_eq_none_iff] at hx
        exact hx
      · subst hb
        obtain ⟨o', ho', hc', hd'⟩ := it
        rw [ho'] at e; cases e
        exact hc.elim (fun q => q _ _ hc' hd') fun q => q hI0
    | some v =>
      rw [List.getElem?_toArray] at hx
      obtain ⟨x, t, rfl, hxi⟩ := hI.at i v hx
      refine wpAny_pyNext_list_item it ls (by rw [List.getElem?_toArray]; exact hx) (fun h' it' hs' => ?_)
      have up : ∀ b o, b ≠ C → (NotIt o ∨ h₀.get? b ≠ none) → s.heap.get? b = some o → h'.get? b = some o := fun b o _ hc e => by
        refine hs'.extBut b o (fun hb => ?_) e
        subst hb
        obtain ⟨o', ho', hc', hd'⟩ := it
        rw [ho'] at e; cases e
        exact hc.elim (fun q => q _ _ hc' hd') fun q => q hI0
      have F' : Fr h₀ C h' m := ⟨F.ns.extBut hs'.extBut (Ne.symm hIC), fun b o e => hs'.extBut b o (fun hb => by subst hb; rw [hI0] at e; cases e) (F.keep b o e), F.above⟩
      have ls' : h'.IsList gl us.toArray := ls.extBut hs'.extBut (Ne.symm hIg)
      have hk' := hk.step (tk := s.toks) up
      refine wpAny_assign_Name (wpAny_storeName_local gk_int F'.ns (fun h₂ hn₂ hs₂ => ?_) gk_pl)
      have F₂ := F'.set hn₂ hs₂
      have ls₂ : h₂.IsList gl us.toArray := ls'.extBut hs₂.extBut hgC
      have it₂ : h₂.IsListIter I gl (i + 1) := it'.extBut hs₂.extBut hIC
      have hk₂ : Kp h₀ C s₀ { s with heap := h₂, toks := s.toks + 1 } := hk.step fun b o hC hc e => hs₂.extBut b o hC (up b o hC hc e)
      clear hk' F' ls' it' hn₂ hs₂ up hs'
      rw [execs_gFor]
      refine seg_execs_cons (seg_If (g_test1 (FrI F₂) News.nil T ?_ X))
      by_cases h127 : x = 127
      · subst h127
        rw [if_pos (show ((127 : Int) == 127) = true from rfl)]
        refine seg_execs_cons (seg_plain (wpAny_Return_none ?_))
        show Seg _ _ _ _ _ _ _ (leafOf (.ok (.ret .none))) _ _
        refine seg_leaf _ ?_
        rw [hk2]
        refine seg_end _ ⟨rfl, ?_, hk₂⟩
        rw [show 8 - (n + 1) = i by omega]
        exact O.maxx i hiz hxi
      · rw [if_neg (by simpa using h127)]
        refine seg_execs_nil ?_
        refine seg_execs_cons (seg_If (g_test2 (FrI F₂) News.nil T (fun tk => ?_) X))
        by_cases h0 : x = 0
        · subst h0
          obtain ⟨hi0, y, hy, hout⟩ := O.zero i hiz hxi
          obtain ⟨ty, hly⟩ := hlast y hi0 hy
          have hly' : (fun z => if z = Str.ofString "interval" then some (Value.int 0 t) else m z) (Str.ofString "last_interval") = some (.int y ty) := by
            show (if Str.ofString "last_interval" = Str.ofString "interval" then _ else m (Str.ofString "last_interval")) = _
            rw [if_neg (by decide), hly]
          rw [if_pos (show ((0 : Int) == 0) = true from rfl)]
          refine seg_execs_cons (seg_If (g_test3 (FrL F₂ hly') News.nil T (fun tk => ?_) X))
          rw [if_neg Bool.false_ne_true]
          refine seg_execs_nil ?_
          refine seg_execs_cons (seg_While fun p' => ?_)
          exact seg_while rfl rfl hL hout n s₀ _ _ (by omega) (by omega) F₂ hly' (hk₂.step fun _ _ _ _ e => e)
        · rw [if_neg (by simpa using h0)]
          refine seg_execs_nil ?_
          have F₃ : Fr h₀ C ({ s with heap := h₂, toks := tk } : Shared).heap _ := F₂
          refine seg_execs_cons (seg_Expr_Yield rfl rfl rfl ?_)
          refine ld F₃ (if_pos rfl) ?_ (by decide) gk_int
          intro kap hkap
          refine ⟨⟨x, t, by rw [show 7 - n = i by omega]; exact (O.item i x hiz hxi h0 h127).1, rfl⟩, hk₂.step fun _ _ _ _ e => e, fun hn => ?_⟩
          obtain ⟨k, rfl⟩ : ∃ k, n = k + 1 := ⟨n - 1, by omega⟩
          obtain ⟨oC, es, ep, hoC, hdC, hsC, hfC⟩ := F₂.ns
          obtain ⟨oG, hoG, hcG, nG, hdG⟩ := ls₂
          obtain ⟨oI, hoI, hcI, hdI⟩ := it₂
          refine ⟨[(C, oC), (gl, oG), (I, oI)], fun q hq => ?_, fun s'' hk0 hal => hkap .none s'' ?_⟩
          · rcases List.mem_cons.mp hq with rfl | hq
            · exact ⟨hoC, Nat.ne_of_gt hL, Heap.get?_none_of_le F₂.above, .inl rfl⟩
            rcases List.mem_cons.mp hq with rfl | hq
            · exact ⟨hoG, hgL, hg0, .inr (.inl rfl)⟩
            rw [List.mem_singleton.mp hq]
            exact ⟨hoI, hIL, hI0, .inr (.inr hcI)⟩
          · have F₄ : Fr h₀ C s''.heap (fun z => if z = Str.ofString "interval" then some (Value.int x t) else m z) :=
              ⟨⟨oC, es, ep, hal _ (.head _), hdC, hsC, hfC⟩, hk0, F₂.above⟩
            have ls₄ : s''.heap.IsList gl us.toArray := ⟨oG, hal (gl, oG) (.tail _ (.head _)), hcG, nG, hdG⟩
            have it₄ : s''.heap.IsListIter I gl (i + 1) := ⟨oI, hal (I, oI) (.tail _ (.tail _ (.head _))), hcI, hdI⟩
            refine seg_execs_cons (seg_plain (wpAny_Assign_Name ?_))
            refine ld F₄ (if_pos rfl) ?_ (by decide) gk_int
            refine wpAny_storeName_local gk_last F₄.ns (fun h₅ hn₅ hs₅ => ?_) gk_pl
            have F₅ := F₄.set hn₅ hs₅
            refine seg_execs_nil (seg_again rfl ?_)
            refine ih k (by omega) (i + 1) _ _ _ I (by omega) (O.item i x hiz hxi h0 h127).2 F₅ (it₄.extBut hs₅.extBut hIC) (ls₄.extBut hs₅.extBut hgC) hIC hIg hIL hI0 (fun y _ hy => ?_) ((Kp.refl h₀ C s'').step fun b o hC _ e => hs₅.extBut b o hC e)
            rw [Nat.add_sub_cancel, hxi] at hy
            cases hy
            exact ⟨t, if_pos rfl⟩
end
end Mine
end
section
open PySem PySem.W PySem.Calls PyProof.Rows
set_option maxRecDepth 100000
set_option maxHeartbeats 2000000
namespace Mine
section
variable {w : World} {A : Around} {h₀ : Heap} {L C gl : Addr} {cd : Value} {out : Nat → Option Int} {its : List Int} {nz : Nat} {us : List Value} {mean : ExcName → Option Value} {mg mb : Str → Option Value}
theorem seg_gen (hh : A.handled = none) (T : Top hd.view_39 (looseW hd.view_39 []) mean mg mb h₀) (X : (hd.heap_39 w.params).In h₀)
    (hL : L < C) (hgC : gl ≠ C) (hgL : gl ≠ L) (hg0 : h₀.get? gl = none) (O : OutOk its out nz) (hI : IntsAre us its) {s₀ s : Shared} {m : Str → Option Value} (F : Fr h₀ C s.heap m) (hm : m (Str.ofString "grouping") = some (.ref gl)) (ls : s.heap.IsList gl us.toArray) (hk : Kp h₀ C s₀ s) :
    Seg (model PySem.Challenge.rw_pg0033_01.row.prog w) A (gR h₀ C out) (gY h₀ L C gl out) 8 s₀ (.func gBody (gEnv C cd)) ((model PySem.Challenge.rw_pg0033_01.row.prog w).den (.func gBody (gEnv C cd))) [] s := by
  refine seg_func ?_
  rw [show execs gBody (gEnv C cd) = execs _ (gEnv C cd) from congrArg (fun b => execs b (gEnv C cd)) gBody_eq]
  refine seg_execs_cons (seg_plain (wpAny_Assign_Name ?_))
  refine wpAny_Constant_none ?_
  refine wpAny_storeName_local gk_last F.ns (fun h₁ hn₁ hs₁ => ?_) gk_pl
  have F₁ := F.set hn₁ hs₁
  have ls₁ : h₁.IsList gl us.toArray := ls.extBut hs₁.extBut hgC
  refine seg_execs_cons (seg_For ?_ fun x => rfl)
  refine ld F₁ (v := .ref gl) (by show (if Str.ofString "grouping" = Str.ofString "last_interval" then _ else m _) = _; rw [if_neg (by decide), hm]) ?_ (by decide) gk_grp
  refine wpAny_pyIter_list ls₁ (fun p => ?_)
  have hC : @LT.lt Nat _ C h₁.objs.size := F₁.ns.lt
  have hgs : @LT.lt Nat _ gl h₁.objs.size := by obtain ⟨o, ho, _⟩ := ls₁; exact Heap.lt_size ho
  refine seg_turns hh T X hL hgC hgL hg0 O hI ?k1 ?k2 7 0 s₀ _ (fun x => if x = Str.ofString "last_interval" then some Value.none else m x) _ rfl (Nat.zero_le _) ?F ?it ?ls (Nat.ne_of_gt hC) (Nat.ne_of_gt hgs) (Nat.ne_of_gt (Nat.lt_trans hL hC)) ?h0 (fun _ h => absurd h (by decide)) ?hk
  case k1 => rfl
  case k2 => rfl
  case F => exact F₁.push _
  case it => exact ⟨_, Heap.get?_push_size _ rfl, rfl, rfl⟩
  case ls => exact ls₁.push _
  case hk => exact hk.step fun b o hb _ e => Heap.get?_push_of_some _ (hs₁.extBut b o hb e)
  case h0 =>
    cases hq : h₀.get? h₁.objs.size with
    | none => rfl
    | some o' => exact absurd (Heap.lt_size (F₁.keep _ _ hq)) (Nat.lt_irrefl _)
end
end Mine
end
section
open PySem PySem.W PyProof.Rows
set_option maxRecDepth 100000
set_option maxHeartbeats 4000000
namespace Mine
abbrev lawEnv (L a : Addr) (ccd : Value) : Env := envOf (Str.ofString "law") (defScope lawS) L a ccd
abbrev lawTop (dp un : Nat) (gd : Option (List Code)) (L a : Addr) (ccd : Value) (outer : List Env) : Around := ktrTop dp un gd (Str.ofString "law") (defScope lawS) L a ccd [] outer
def sizesOf (ns : List Int) : List Int := 3 :: ((ns.drop 1).take (min 6 ns.length - 1)).map fun x => 1 + x.fmod 6
section
variable {w : World} {mean : ExcName → Option Value} {mg mb : Str → Option Value} {news : List (Addr × Obj)}
theorem comp_ints {ys : List Value} {xs : List Int} {f : Int → Int} (h : CarriedAll ys (List.map (fun a => PyData.int (f a)) (List.filter (fun _ => true) xs))) : IntsAre ys (xs.map f) := by
  refine IntsAre.ofCarried ?_
  rw [List.map_map]
  have e : List.filter (fun _ => true) xs = xs := List.filter_eq_self.mpr fun _ _ => rfl
  rw [e] at h
  exact h
theorem newsHead {h₀ h : Heap} {L : Addr} {p : Addr × Obj} {r : List (Addr × Obj)} (N : News h₀ L h (p :: r)) : News h₀ L h [p] := fun q hq => N q (by rw [List.mem_singleton.mp hq]; exact List.mem_cons_self ..)
theorem st0 {dp un : Nat} {gd : Option (List Code)} {a : Addr} {ccd : Value} {outer : List Env} {A₀ : Around} {base h₀ : Heap} {L : Addr} {m : Str → Option Value} {s : Shared} {Q : Flow → Shared → Prop}
    (sl : Addr) (sv : List Value) (ns : List Int) (hsI : IntsAre sv ns) (hs63 : ns.length ≤ 63) (hLay : (PyData.list (List.map PyData.int ns)).layable0 = true) (hsl : h₀.IsList sl sv.toArray)
    (B : Below A₀ base outer h₀)
    (F : Fr h₀ L s.heap (kstB m [(Str.ofString "script", .ref sl)]))
    (N : News h₀ L s.heap []) (T : Top hd.view_39 (looseW hd.view_39 []) mean mg mb h₀) (hdp : dp + 8 < recursionLimit) (hun : un + 80 < cLine)
    (hQ : ∀ (D : Addr) (us : List Value) (h' : Heap) (tk : Nat), IntsAre us (sizesOf ns) → Fr h₀ L h' (kstB m [(Str.ofString "sizes", .ref D), (Str.ofString "script", .ref sl)]) → News h₀ L h' [(D, W.listOf us.toArray 0)] → Q .next { s with heap := h', toks := tk }) :
    (hd.heap_39 w.params).In h₀ → 
    wpAny (model PySem.Challenge.rw_pg0033_01.row.prog w) (lawTop dp un gd L a ccd outer) (exec (nthS (defBody lawS) 0) (lawEnv L a ccd)) Q (fun _ _ => False) s := by
  k_with_none
  w_top off
  k_fill
  intro X
  dsimp only [lawTop, lawEnv]
  conv in (occs := *) (defScope lawS) => all_goals whnf
  conv in nthS (defBody lawS) 0 => whnf
  dsimp only [kstB] at F
  w_strict (
    k_steps
    refine kmk_add_ints (ns := [3]) (by assumption) (by assumption) ⟨_, (News.get (by assumption) (by k_mem)), rfl, _, rfl⟩ (by assumption) (.cons _ _ .nil) (comp_ints (by assumption)) ?_ ?_
    · intro D us h' F' N' _ hI
      k_steps
      exact hQ _ _ _ _ hI (by assumption) (newsHead (by assumption))
    · rw [List.length_map, sizeLine_eq]
      have := List.length_take_le (min 6 ns.length - 1) (List.drop 1 ns)
      show 1 + _ ≤ _
      omega)
end
end Mine
end
section
open PySem PySem.W PyProof.Rows
set_option maxRecDepth 100000
set_option maxHeartbeats 4000000
namespace Mine
section
variable {w : World} {mean : ExcName → Option Value} {mg mb : Str → Option Value} {news : List (Addr × Obj)}
theorem newsLast {h₀ h : Heap} {L : Addr} {p : Addr × Obj} : ∀ {r : List (Addr × Obj)}, News h₀ L h r → p ∈ r → News h₀ L h [p] := fun N hp q hq => by rw [List.mem_singleton.mp hq]; exact N p hp
theorem fm3 (x : Int) : 0 ≤ x.fmod 3 ∧ x.fmod 3 < 3 := by rw [Int.fmod_eq_emod_of_nonneg _ (by decide)]; omega
theorem st1 {dp un : Nat} {gd : Option (List Code)} {a : Addr} {ccd : Value} {outer : List Env} {A₀ : Around} {base h₀ : Heap} {L : Addr} {m : Str → Option Value} {s : Shared} {Q : Flow → Shared → Prop}
    (sl : Addr) (sv : List Value) (ns : List Int) (hsI : IntsAre sv ns) (hs63 : ns.length ≤ 63) (hLay : (PyData.list (List.map PyData.int ns)).layable0 = true) (hsl : h₀.IsList sl sv.toArray)
    (D : Addr) (us : List Value)
    (B : Below A₀ base outer h₀)
    (F : Fr h₀ L s.heap (kstB m [(Str.ofString "sizes", .ref D), (Str.ofString "script", .ref sl)]))
    (N : News h₀ L s.heap [(D, W.listOf us.toArray 0)]) (T : Top hd.view_39 (looseW hd.view_39 []) mean mg mb h₀) (hdp : dp + 8 < recursionLimit) (hun : un + 80 < cLine)
    (hQ : ∀ (e : Int) (t : Tok) (h' : Heap) (tk : Nat), 0 ≤ e ∧ e < 3 → Fr h₀ L h' (kstB m [(Str.ofString "ending", .int e t), (Str.ofString "sizes", .ref D), (Str.ofString "script", .ref sl)]) → News h₀ L h' [(D, W.listOf us.toArray 0)] → Q .next { s with heap := h', toks := tk }) :
    (hd.heap_39 w.params).In h₀ → 
    wpAny (model PySem.Challenge.rw_pg0033_01.row.prog w) (lawTop dp un gd L a ccd outer) (exec (nthS (defBody lawS) 1) (lawEnv L a ccd)) Q (fun _ _ => False) s := by
  k_with_none
  w_top off
  k_fill
  intro X
  dsimp only [lawTop, lawEnv]
  conv in (occs := *) (defScope lawS) => all_goals whnf
  conv in nthS (defBody lawS) 1 => whnf
  dsimp only [kstB] at F
  w_strict (
    k_steps
    all_goals first
      | (refine hQ _ _ _ _ ?e (by assumption) (newsLast (by assumption) (by k_mem)); case e => exact fm3 _)
      | (exfalso; have hne : ns ≠ [] := by { have hd' : decide (ns = []) = false := by assumption
                                             simpa using hd' }
         have hpos := List.length_pos_iff.mpr hne; omega))
theorem st3 {dp un : Nat} {gd : Option (List Code)} {a : Addr} {ccd : Value} {outer : List Env} {A₀ : Around} {base h₀ : Heap} {L : Addr} {m : Str → Option Value} {s : Shared} {Q : Flow → Shared → Prop}
    (B : Below A₀ base outer h₀)
    (F : Fr h₀ L s.heap (kstB m []))
    (N : News h₀ L s.heap news) (T : Top hd.view_39 (looseW hd.view_39 []) mean mg mb h₀) (hdp : dp + 8 < recursionLimit) (hun : un + 80 < cLine)
    (hQ : ∀ (wl : Addr) (h' : Heap) (tk : Nat), Fr h₀ L h' (kstB m [(Str.ofString "widths", .ref wl)]) → (∀ p ∈ news, p.1 < wl) → News h₀ L h' ((wl, W.listOf (([] : List Value).toArray) 0) :: news) → Q .next { s with heap := h', toks := tk }) :
    (hd.heap_39 w.params).In h₀ → 
    wpAny (model PySem.Challenge.rw_pg0033_01.row.prog w) (lawTop dp un gd L a ccd outer) (exec (nthS (defBody lawS) 3) (lawEnv L a ccd)) Q (fun _ _ => False) s := by
  k_with_none
  w_top off
  k_fill
  intro X
  dsimp only [lawTop, lawEnv]
  conv in (occs := *) (defScope lawS) => all_goals whnf
  conv in nthS (defBody lawS) 3 => whnf
  dsimp only [kstB] at F
  w_strict (
    k_steps
    all_goals exact hQ _ _ _ (by assumption) (by assumption) (by assumption))
end
end Mine
end
section
open PySem PySem.W PyProof.Rows
set_option maxRecDepth 100000
set_option maxHeartbeats 4000000
namespace Mine
section
variable {w : World} {mean : ExcName → Option Value} {mg mb : Str → Option Value} {news : List (Addr × Obj)}
theorem len5 (zs : List Int) (h0 : 1 ≤ zs.length) (h6 : zs.length ≤ 6) : zs.length + (List.replicate (8 - (zs.length : Int)).toNat (List.drop (zs.length - 1) zs)).flatten.length ≤ sizeLine := by
  have h1 : (List.drop (zs.length - 1) zs).length = 1 := by rw [List.length_drop]; omega
  rw [List.length_flatten, List.map_replicate, h1, List.sum_replicate_nat, sizeLine_eq]
  omega
theorem st5 {dp un : Nat} {gd : Option (List Code)} {a : Addr} {ccd : Value} {outer : List Env} {A₀ : Around} {base h₀ : Heap} {L : Addr} {m : Str → Option Value} {s : Shared} {Q : Flow → Shared → Prop}
    (wl D : Addr) (us sz : List Value) (ws zs : List Int) (hI : IntsAre us ws) (hZ : IntsAre sz zs) (hz0 : 1 ≤ zs.length) (hz6 : zs.length ≤ 6) (hw8 : ws.length ≤ 8) (e : Int) (te : Tok)
    (B : Below A₀ base outer h₀)
    (F : Fr h₀ L s.heap (kstB m [(Str.ofString "widths", .ref wl), (Str.ofString "ending", .int e te), (Str.ofString "sizes", .ref D)]))
    (N : News h₀ L s.heap [(wl, W.listOf us.toArray us.length), (D, W.listOf sz.toArray 0)]) (T : Top hd.view_39 (looseW hd.view_39 []) mean mg mb h₀) (hdp : dp + 8 < recursionLimit) (hun : un + 80 < cLine)
    (hE0 : e = 0 → ws = zs ++ (List.replicate (8 - (zs.length : Int)).toNat (List.drop (zs.length - 1) zs)).flatten) (hE1 : e ≠ 0 → ws = zs)
    (hQ : ∀ h' tk', Fr h₀ L h' (kstB m [(Str.ofString "widths", .ref wl), (Str.ofString "ending", .int e te), (Str.ofString "sizes", .ref D)]) → News h₀ L h' [(wl, W.listOf us.toArray us.length)] → Q .next { s with heap := h', toks := tk' }) :
    (hd.heap_39 w.params).In h₀ → 
    wpAny (model PySem.Challenge.rw_pg0033_01.row.prog w) (lawTop dp un gd L a ccd outer) (exec (nthS (defBody lawS) 5) (lawEnv L a ccd)) Q (fun _ _ => False) s := by
  k_with_none
  w_top off
  k_fill
  intro X
  dsimp only [lawTop, lawEnv]
  conv in (occs := *) (defScope lawS) => all_goals whnf
  conv in nthS (defBody lawS) 5 => whnf
  dsimp only [kstB] at F
  w_strict (
    k_steps
    · refine kmk_add_ints (ns := zs) (by assumption) (by assumption) ⟨_, (News.get (by assumption) (by k_mem)), rfl, _, rfl⟩ ⟨_, (News.get (by assumption) (by k_mem)), rfl, _, rfl⟩ hZ (by assumption) ?_ ?_
      · intro D5 us5 h5 F5 N5 _ hI5
        k_steps
        all_goals first
          | exact hQ _ _ (by assumption) (newsLast (by assumption) (by k_mem))
          | exact absurd (hE0 (by assumption)) (by assumption)
      · exact len5 zs hz0 hz6
    all_goals first
      | exact hQ _ _ (by assumption) (newsLast (by assumption) (by k_mem))
      | exact absurd (hE1 (by assumption)) (by assumption))
end
end Mine
end
section
open PySem PySem.W PySem.Calls PyProof.Rows
set_option maxRecDepth 100000
set_option maxHeartbeats 4000000
namespace Mine
section
variable {prog : Program} {w : World} {A : Around} {E : Value → Shared → Prop} {s : Shared} {h₀ : Heap} {L : Addr} {m : Str → Option Value} {news : List (Addr × Obj)} {K : Frag} {p : Program} {loose : List Str} {mean : ExcName → Option Value} {mg mb : Str → Option Value}
theorem call_gen {Q : Value → Shared → Prop} {name qual : Str} {params : Arguments} {body : List Stmt} {scope : Scope} {dV kV doc pm cdv ct oc : Value} {an od : Option Addr} {osl : Array (Option Value)} {f : Addr} {args : List Value} {binds : List (Str × Value)}
    (F : Fr h₀ L s.heap m) (X₀ : K.In h₀) (T : Top p loose mean mg mb h₀)
    (ho : K.lookup f = some ⟨oc, od, .func (fnOf name qual params body scope dV kV doc pm an cdv ct), osl⟩) (hcd : codeIn K cdv qual = true) (hroom : A.depth < recursionLimit)
    (hbind : BindsTo s (fnOf name qual params body scope dV kV doc pm an cdv ct) ⟨args, []⟩ binds) (hloc : ∀ y ∈ binds, scope.names.lookup y.1 = some .local)
    (h : ∀ h₁ t1 t2, Fr s.heap s.heap.objs.size h₁ (fun y => binds.reverse.lookup y) → h₁.objs.size = s.heap.objs.size + 1 →
      Q (.ref h₁.objs.size) { s with gens := s.gens.push (.fresh (.func body (envOf qual scope s.heap.objs.size f cdv))), toks := s.toks + binds.length + 1 + 1, heap := h₁.push { cls := .type "generator", data := .fields #[.int s.gens.size 0, .str name t1, .str qual t2] } })
    (hco : scope.isCoroutine = false) (hgen : scope.isGenerator = true) (hk : scope.kind = .function)
    (hcell : ∀ x ∈ scope.names, x.2 ≠ .cell) : wpAny (model prog w) A (call (.ref f) args) Q E s := by
  have X := X₀.keeps F.keep
  refine wpAny_call ?_
  refine codeAny_call_generator (fd := fnOf name qual params body scope dV kV doc pm an cdv ct) (body := body) hroom (X _ _ ho) rfl hco hgen rfl (codeRec_of X hcd) (hbind _ _ _ _ ?_)
  refine wpAny_newFunctionEnv hcell hloc (fun h₁ hns hsb => ⟨(T.nolimit.keeps F.keep).fresh _ hsb, ?_⟩) hk
  exact h h₁ _ _ ⟨hns, fun b o e => hsb.extBut b o (Nat.ne_of_lt (Heap.lt_size e)) (Heap.get?_push_of_some _ e), Nat.le_refl _⟩ (by rw [hsb.1, Heap.size_push])
end
end Mine
end
section
open PySem PySem.W PySem.Calls PyProof.Rows
set_option maxRecDepth 100000
set_option maxHeartbeats 4000000
namespace Mine
def GW (prog : Program) (w : World) (A : Around) (h₀ : Heap) (L C gl : Addr) (out : Nat → Option Int) (g j : Nat) (s : Shared) : Prop :=
  j < 8 → ∃ gs, s.gens[g]? = some gs ∧ ((gs = .finished ∧ ∀ j', j ≤ j' → out j' = none) ∨ ∃ fp, FpOk h₀ L C gl s.heap fp ∧
    ∀ s'' : Shared, (∀ b o, h₀.get? b = some o → s''.heap.get? b = some o) → (∀ p ∈ fp, s''.heap.get? p.1 = some p.2) → gs.Goes (model prog w) A (gR h₀ C out) (gY h₀ L C gl out) (8 - j) (.send .none) s'')
section
variable {prog : Program} {w : World} {A : Around} {E : Value → Shared → Prop} {s : Shared} {h₀ : Heap} {L C gl G : Addr} {m : Str → Option Value} {out : Nat → Option Int} {g j : Nat}
/-- the generator's state, where the law has changed what is not the generator's -/
theorem GW.keeps {s' : Shared} (x : GW prog w A h₀ L C gl out g j s) (hg : s'.gens = s.gens) (hk : ∀ fp, FpOk h₀ L C gl s.heap fp → ∀ p ∈ fp, s'.heap.get? p.1 = some p.2) : GW prog w A h₀ L C gl out g j s' := by
  intro hj
  obtain ⟨gs, hgs, hh⟩ := x hj
  refine ⟨gs, by rw [hg]; exact hgs, hh.imp id ?_⟩
  rintro ⟨fp, hfp, hgo⟩
  exact ⟨fp, fun p hp => ⟨hk fp hfp p hp, (hfp p hp).2⟩, hgo⟩
theorem next_step {d : Value} {Q : Value → Shared → Prop} (hj : j < 8) (hmono : ∀ j, out j = none → ∀ j', j ≤ j' → out j' = none) (hh : A.handled = none) (hroom : A.depth < recursionLimit)
    (hl : s.heap.NoLimit) (hb : ∀ y ∈ s.gens, y.bare = true) (hg : s.heap.IsGen G g) (F : ∀ b o, h₀.get? b = some o → s.heap.get? b = some o) (hC : h₀.get? C = none)
    (W : GW prog w A.in1.in1 h₀ L C gl out g j s)
    (hQ : ∀ v h' gens' tk', (match out j with | some x => ∃ t, v = .int x t | none => v = d) → (∀ b o, b ≠ C → (NotIt o ∨ h₀.get? b ≠ none) → s.heap.get? b = some o → h'.get? b = some o) →
      GW prog w A.in1.in1 h₀ L C gl out g (j + 1) { s with heap := h', gens := gens', toks := tk' } → (∀ y ∈ gens', y.bare = true) → Q v { s with heap := h', gens := gens', toks := tk' }) :
    wpAny (model prog w) A (call (.builtin "next") [.ref G, d]) Q E s := by
  refine call_next2 hg ?_
  obtain ⟨gs, hgs, hcase⟩ := W hj
  rcases hcase with ⟨rfl, hout⟩ | ⟨fp, hfp, hgo⟩
  · refine pyNext_fin hh hg hgs fun h' hk => ?_
    refine hQ d h' s.gens s.toks ?_ (fun b o _ _ e => hk b o e) ?_ hb
    · rw [hout j (Nat.le_refl _)]
    · intro _
      exact ⟨_, hgs, .inl ⟨rfl, fun j' hj' => hout j' (by omega)⟩⟩
  · refine pyNext_fn (P := gP h₀ C out) (Y := gY h₀ L C gl out) hh hl hroom hg hgs (hgo (s.setGen g .running) F fun p hp => (hfp p hp).1) (fun v s₁ gs' hbare hY => ?_) (fun s₁ hP h' hk => ?_)
    · obtain ⟨⟨x, t, hx, rfl⟩, ⟨h₁, tk₁, rfl, hk₁⟩, hkap⟩ := hY
      have hx' : out j = some x := by rw [show j = 7 - (8 - j - 1) by omega]; exact hx
      refine hQ _ h₁ _ tk₁ (by rw [hx']; exact ⟨t, rfl⟩) hk₁ ?_ ?_
      · intro hj1
        obtain ⟨k, hk⟩ : ∃ k, 8 - j = k + 2 := ⟨8 - j - 2, by omega⟩
        obtain ⟨fp', hfp', hre⟩ := hkap (by omega)
        refine ⟨gs', setGen_self (s := { s.setGen g .running with heap := h₁, toks := tk₁ }) (gs := .running) (setGen_self hgs), .inr ⟨fp', hfp', fun s'' h0 hal => ?_⟩⟩
        have hz := hre s'' h0 hal
        rw [hk] at hz
        rw [show 8 - (j + 1) = k + 1 by omega]
        exact hz
      · exact (GenOnlyQ.of ((GenOnly.setGen s g .running).trans (GenOnly.setGen _ g gs')) (setGen_self (gs := .running) (setGen_self hgs)) hbare).bare hb
    · obtain ⟨hout, h₁, tk₁, rfl, hk₁⟩ := hP
      have ho : out j = none := by rw [show j = 8 - (8 - j) by omega]; exact hout
      refine hQ d h' _ tk₁ (by show match out j with | some x => _ | none => _; rw [ho]) (fun b o hb hc e => hk b o (hk₁ b o hb hc e)) ?_ ?_
      · intro _
        exact ⟨.finished, setGen_self (s := { s.setGen g .running with heap := h₁, toks := tk₁ }) (gs := .running) (setGen_self hgs), .inl ⟨rfl, fun j' hj' => hmono j ho j' (by omega)⟩⟩
      · exact (GenOnlyQ.of ((GenOnly.setGen s g .running).trans (GenOnly.setGen _ g .finished)) (setGen_self (gs := .running) (setGen_self hgs)) rfl).bare hb
end
end Mine
end
section
open PySem PySem.W PySem.Calls PyProof.Rows
set_option maxRecDepth 100000
set_option maxHeartbeats 4000000
namespace Mine
def forS : Stmt := nthS (defBody lawS) 4
def tnB : List Stmt := forBody forS
section
variable {w : World} {mean : ExcName → Option Value} {mg mb : Str → Option Value} {news : List (Addr × Obj)}
theorem tn1 {dp un : Nat} {gd : Option (List Code)} {a : Addr} {ccd : Value} {outer : List Env} {A₀ : Around} {base h₀ : Heap} {L G : Addr} {m : Str → Option Value} {s : Shared} {Q : Flow → Shared → Prop} {E : Value → Shared → Prop}
    (B : Below A₀ base outer h₀)
    (F : Fr h₀ L s.heap (kstB m [(Str.ofString "walk", .ref G)]))
    (N : News h₀ L s.heap []) (T : Top hd.view_39 (looseW hd.view_39 []) mean mg mb h₀) (hdp : dp + 8 < recursionLimit) (hun : un + 80 < cLine)
    (hcall : ∀ t tk, wpAny (model PySem.Challenge.rw_pg0033_01.row.prog w) (lawTop dp un gd L a ccd outer) (call (.builtin "next") [.ref G, .int 0 t]) 
      (fun v s₁ => wpAny (model PySem.Challenge.rw_pg0033_01.row.prog w) (lawTop dp un gd L a ccd outer) (storeName (lawEnv L a ccd) (Str.ofString "size") v) (fun _ => Q .next) E s₁) E { s with toks := tk }) :
    (hd.heap_39 w.params).In h₀ → 
    wpAny (model PySem.Challenge.rw_pg0033_01.row.prog w) (lawTop dp un gd L a ccd outer) (exec (nthS tnB 0) (lawEnv L a ccd)) Q E s := by
  k_with_none
  w_top off
  k_fill
  intro X
  dsimp only [lawTop, lawEnv] at hcall ⊢
  conv in (occs := *) (defScope lawS) => all_goals whnf
  conv in nthS tnB 0 => whnf
  dsimp only [kstB] at F
  w_strict (
    k_steps
    exact hcall _ _)
local macro_rules | `(tactic| walk_at "call builtin:list.append") => `(tactic| (k_here; (with_reducible show wpAny _ _ (call (Value.builtin "list.append") [Value.ref _, _]) _ _ _); k_dflt (refine' append_at (News.get ?k1 ?k2) ?_ ?k3; (case k1 => k_asm); (case k2 => k_mem); (case k3 => assumption)); intro h9 hs9 hD9; (try dsimp only)))
theorem tn2 {dp un : Nat} {gd : Option (List Code)} {a : Addr} {ccd : Value} {outer : List Env} {A₀ : Around} {base h₀ : Heap} {L wl : Addr} {m : Str → Option Value} {s : Shared} {Q : Flow → Shared → Prop} {E : Value → Shared → Prop} {x : Int} {tx : Tok} {its : Array Value} {n : Nat}
    (B : Below A₀ base outer h₀)
    (F : Fr h₀ L s.heap (kstB m [(Str.ofString "size", .int x tx), (Str.ofString "widths", .ref wl)]))
    (N : News h₀ L s.heap [(wl, W.listOf its n)]) (hsz : its.size ≤ sizeLine) (T : Top hd.view_39 (looseW hd.view_39 []) mean mg mb h₀) (hdp : dp + 8 < recursionLimit) (hun : un + 80 < cLine)
    (hQ1 : 0 < x → ∀ h' tk', Heap.SameBut wl s.heap h' → h'.get? wl = some (W.listOf (its.push (.int x tx)) (n + 1)) → Q .next { s with heap := h', toks := tk' })
    (hQ0 : ¬ 0 < x → ∀ tk', Q .next { s with toks := tk' }) :
    (hd.heap_39 w.params).In h₀ → 
    wpAny (model PySem.Challenge.rw_pg0033_01.row.prog w) (lawTop dp un gd L a ccd outer) (exec (nthS tnB 1) (lawEnv L a ccd)) Q E s := by
  k_with_none
  w_top off
  k_fill
  intro X
  dsimp only [lawTop, lawEnv]
  conv in (occs := *) (defScope lawS) => all_goals whnf
  conv in nthS tnB 1 => whnf
  dsimp only [kstB] at F
  w_strict (
    k_steps
    all_goals first
      | exact hQ1 (by assumption) _ _ (by assumption) (by assumption)
      | exact hQ0 (by assumption) _)
end
end Mine
end
section
open PySem PySem.W PySem.Calls PyProof.Rows PyProof.Rows.LCg
set_option maxRecDepth 100000
set_option maxHeartbeats 4000000
namespace Mine
def forIter : Stmt → Expr
  | .For _ i _ _ _ => i
  | _ => default
section
variable {w : World} {mean : ExcName → Option Value} {mg mb : Str → Option Value} {news : List (Addr × Obj)}
theorem rng8 {dp un : Nat} {gd : Option (List Code)} {a : Addr} {ccd : Value} {outer : List Env} {h₀ : Heap} {L : Addr} {m : Str → Option Value} {s : Shared} {Q : Value → Shared → Prop} {E : Value → Shared → Prop}
    (F : Fr h₀ L s.heap m)
    (N : News h₀ L s.heap []) (T : Top hd.view_39 (looseW hd.view_39 []) mean mg mb h₀) 
    (hQ : ∀ h' tk t u v, IsRange h' s.heap.objs.size 0 8 1 t u v → (∀ b o, s.heap.get? b = some o → h'.get? b = some o) → Q (.ref s.heap.objs.size) { s with heap := h', toks := tk }) :
    (hd.heap_39 w.params).In h₀ → 
    wpAny (model PySem.Challenge.rw_pg0033_01.row.prog w) (lawTop dp un gd L a ccd outer) (eval (forIter forS) (lawEnv L a ccd)) Q E s := by
  k_with_none
  w_top off
  k_fill
  intro X
  dsimp only [lawTop, lawEnv]
  conv in (occs := *) (defScope lawS) => all_goals whnf
  conv in forIter forS => whnf
  w_strict (
    k_steps
    exact hQ _ _ _ _ _ (by assumption) (by assumption))
end
theorem execs_tnB (env : Env) : execs tnB env = execs [nthS tnB 0, nthS tnB 1] env := rfl
theorem forS_eq : forS = .For (.Name (Str.ofString "turn") ⟨51, 8, 51, 12⟩) (forIter forS) tnB [] ⟨51, 4, 54, 31⟩ := rfl
theorem law_turn {L a : Addr} {ccd : Value} : (lawEnv L a ccd).kindOf (Str.ofString "turn") = some .local := rfl
theorem law_size {L a : Addr} {ccd : Value} : (lawEnv L a ccd).kindOf (Str.ofString "size") = some .local := rfl
theorem law_pl {L a : Addr} {ccd : Value} : ((lawEnv L a ccd).scope.kind == .class || ((lawEnv L a ccd).scope.kind == .module && (lawEnv L a ccd).locals != (lawEnv L a ccd).globals)) = false := rfl
theorem fr_kst {h₀ h : Heap} {L : Addr} {m : Str → Option Value} {ps : List (Str × Value)} (F : Fr h₀ L h m) (h1 : ∀ p ∈ ps, m p.1 = some p.2) : Fr h₀ L h (kstB m ps) := kstB_fr h1 F
theorem range_succ_out (out : Nat → Option Int) (j : Nat) : (List.range (j + 1)).filterMap out = (List.range j).filterMap out ++ (out j).toList := by
  rw [List.range_succ, List.filterMap_append]
  cases e : out j <;> simp [e]
section
variable {w : World} {mean : ExcName → Option Value} {mg mb : Str → Option Value} {news : List (Addr × Obj)}
theorem st4 {dp un : Nat} {gd : Option (List Code)} {a : Addr} {ccd : Value} {outer : List Env} {A₀ : Around} {base h₀ : Heap} {L C gl G wl : Addr} {g : Nat} {oG : Obj} {nm qn : Value} {m : Str → Option Value} {s : Shared} {Q : Flow → Shared → Prop} {out : Nat → Option Int}
    (hmono : ∀ j, out j = none → ∀ j', j ≤ j' → out j' = none) (hpos : ∀ j x, out j = some x → 1 ≤ x)
    (B : Below A₀ base outer h₀) (T : Top hd.view_39 (looseW hd.view_39 []) mean mg mb h₀) (X : (hd.heap_39 w.params).In h₀) (hdp : dp + 8 < recursionLimit) (hun : un + 80 < cLine)
    (F : Fr h₀ L s.heap m) (mW : m (Str.ofString "walk") = some (.ref G)) (mw : m (Str.ofString "widths") = some (.ref wl))
    (N : News h₀ L s.heap ((wl, W.listOf (([] : List Value).toArray) 0) :: news)) (hNI : ∀ p ∈ news, NotIt p.2 ∧ p.1 ≠ C ∧ p.1 ≠ wl)
    (hG : (G, oG) ∈ news) (hGc : oG.cls = .type "generator") (hGd : oG.data = .fields #[.int g 0, nm, qn]) (hGs : oG.slots = #[])
    (hCw : C ≠ wl) (hgw : gl ≠ wl) (hC0 : h₀.get? C = none) (hLC : L < C) (hC : @LT.lt Nat _ C s.heap.objs.size) (hgl : @LT.lt Nat _ gl s.heap.objs.size)
    (hbare : ∀ y ∈ s.gens, y.bare = true) (WG : GW PySem.Challenge.rw_pg0033_01.row.prog w (lawTop dp un gd L a ccd outer).in1.in1 h₀ L C gl out g 0 s)
    (hQ : ∀ us h' gens' tk' m', IntsAre us ((List.range 8).filterMap out) → Fr h₀ L h' m' → (∀ z, z ≠ Str.ofString "turn" → z ≠ Str.ofString "size" → m' z = m z) →
      News h₀ L h' ((wl, W.listOf us.toArray us.length) :: news) → (∀ y ∈ gens', y.bare = true) → Q .next { s with heap := h', gens := gens', toks := tk' }) :
    wpAny (model PySem.Challenge.rw_pg0033_01.row.prog w) (lawTop dp un gd L a ccd outer) (exec forS (lawEnv L a ccd)) Q (fun _ _ => False) s := by
  have hh : (lawTop dp un gd L a ccd outer).handled = none := rfl
  have hroom : (lawTop dp un gd L a ccd outer).depth < recursionLimit := by show dp < _; omega
  rw [forS_eq]
  refine wpAny_For ?_ (fun x => rfl)
  refine rng8 F News.nil T (fun h₁ tk₁ t u v hr hk₁ => ?_) X
  refine wpAny_pyIter_range hr rfl ?_
  generalize hI : (({ s with heap := h₁, toks := tk₁ } : Shared)).heap.objs.size = I
  dsimp only at hI ⊢
  have hsz : @LT.lt Nat _ s.heap.objs.size h₁.objs.size := Heap.lt_size (show h₁.get? s.heap.objs.size = some _ from hr)
  have hIC : I ≠ C := by omega
  have hIg : I ≠ gl := by omega
  have hL : @LT.lt Nat _ L s.heap.objs.size := F.ns.lt
  have hIL : I ≠ L := by omega
  have up : ∀ b o, s.heap.get? b = some o → (h₁.push { cls := .type "range_iterator", data := .fields #[rawInt 0, rawInt (Builtin.Range.rangeSize 0 8 1), rawInt 1] }).get? b = some o := fun b o e => Heap.get?_push_of_some _ (hk₁ b o e)
  have hnI : ∀ b o, s.heap.get? b = some o → b ≠ I := fun b o e => Nat.ne_of_lt (Nat.lt_of_lt_of_le (Heap.lt_size e) (by omega : @LE.le Nat _ s.heap.objs.size I))
  refine codeAny_forLoop_any (fun k s' => ∃ h' tk gens' m' us j, s' = { s with heap := h', gens := gens', toks := tk } ∧ j ≤ 8 ∧ k = 9 - j ∧ IsRangeIter h' I (0 + (j : Nat) * 1) (((8 : Nat) : Int) - (j : Nat)) 1 ∧ Fr h₀ L h' m' ∧
      (∀ z, z ≠ Str.ofString "turn" → z ≠ Str.ofString "size" → m' z = m z) ∧ News h₀ L h' ((wl, W.listOf us.toArray us.length) :: news) ∧ IntsAre us ((List.range j).filterMap out) ∧
      GW PySem.Challenge.rw_pg0033_01.row.prog w (lawTop dp un gd L a ccd outer).in1.in1 h₀ L C gl out g j { s with heap := h', gens := gens', toks := tk } ∧ (∀ y ∈ gens', y.bare = true)) ?_ 9 ?_
  · rintro k s' ⟨h', tk, gens', m', us, j, rfl, hj, rfl, st, F', hm', N', hU, W', hb'⟩
    have hnews : ∀ p ∈ ((wl, W.listOf us.toArray us.length) :: news), p.1 ≠ I := fun p hp => by
      rcases List.mem_cons.mp hp with rfl | hp
      · exact hnI _ _ (N _ (List.mem_cons_self ..)).1
      · exact hnI _ _ (N p (List.mem_cons_of_mem _ hp)).1
    have h0I : ∀ b o, h₀.get? b = some o → b ≠ I := fun b o e => hnI b o (F.keep b o e)
    have keepI : ∀ h₂ : Heap, (∀ b o, b ∉ [I] → h'.get? b = some o → h₂.get? b = some o) → Fr h₀ L h₂ m' ∧ News h₀ L h₂ ((wl, W.listOf us.toArray us.length) :: news) := fun h₂ hk =>
      ⟨⟨F'.ns.at' fun o e => hk _ o (by simpa using Ne.symm hIL) e, fun b o e => hk b o (by simpa using h0I b o e) (F'.keep b o e), F'.above⟩, fun p hp => ⟨hk _ _ (by simpa using hnews p hp) (N' p hp).1, (N' p hp).2⟩⟩
    by_cases hlt : j < 8
    · refine (range_walks hh 0 8).item j _ _ _ hlt st fun v h₂ tk₂ hv st₂ hk₂ => ?_
      obtain ⟨F₂, N₂⟩ := keepI h₂ hk₂
      have W₂ := W'.keeps (s' := { s with heap := h₂, gens := gens', toks := tk₂ }) rfl fun fp hfp p hp => hk₂ _ _ (fun hpI => by
        have hpI := List.mem_singleton.mp hpI
        rcases (hfp p hp).2.2.2 with e | e | e
        · exact hIC (hpI.symm.trans e)
        · exact hIg (hpI.symm.trans e)
        · have e1 := (hfp p hp).1
          have e2 : h'.get? I = some _ := st
          rw [hpI] at e1
          have e3 := Option.some.inj (e1.symm.trans e2)
          rw [e3] at e
          exact absurd e (by show Value.type "range_iterator" ≠ Value.type "list_iterator"; decide)) (hfp p hp).1
      refine wpAny_of_eq (rfl : letOwnedTupleGo (.Name (Str.ofString "turn") _) (.ref I) v = pure ()) ?_
      refine wpAny_assign_Name (wpAny_storeName_local law_turn F₂.ns (fun h₃ hn₃ hs₃ => ?_) law_pl)
      have F₃ := F₂.set hn₃ hs₃
      have N₃ := N₂.set hs₃
      have st₃ : IsRangeIter h₃ I (0 + ((j + 1 : Nat) : Int) * 1) (((8 : Nat) : Int) - ((j + 1 : Nat) : Int)) 1 := (hs₃.2 I hIL).trans st₂
      have W₃ := W₂.keeps (s' := { s with heap := h₃, gens := gens', toks := tk₂ + 1 }) rfl fun fp hfp p hp => (hs₃.2 _ (hfp p hp).2.1).trans (hfp p hp).1
      clear W₂ N₂ st₂ hk₂ hn₃ hs₃
      rw [execs_tnB]
      have F₃' : Fr h₀ L h₃ (kstB (fun z => if z = Str.ofString "turn" then some v else m' z) [(Str.ofString "walk", .ref G)]) := fr_kst F₃ fun p hp => by
        rw [List.mem_singleton.mp hp]
        show (if Str.ofString "walk" = Str.ofString "turn" then _ else m' _) = _
        rw [if_neg (by decide), hm' (Str.ofString "walk") (by decide) (by decide), mW]
      refine wpAny_execs_cons (tn1 B F₃' News.nil T hdp hun (fun t tk => ?_) X)
      have hIG : h₃.IsGen G g := ⟨oG, nm, qn, (N₃ _ (List.mem_cons_of_mem _ hG)).1, hGc, hGd, hGs⟩
      refine next_step (s := { s with heap := h₃, gens := gens', toks := tk }) hlt hmono hh hroom (T.nolimit.keeps F₃.keep) hb' hIG F₃.keep hC0 (W₃.keeps rfl fun fp hfp p hp => (hfp p hp).1) ?_
      intro v₄ h₄ gens₄ tk₄ hv₄ hk₄ W₄ hb₄
      have hLne : L ≠ C := Nat.ne_of_lt hLC
      have F₄ : Fr h₀ L h₄ (fun z => if z = Str.ofString "turn" then some v else m' z) := by
        obtain ⟨oL, es, ep, hoL, hdL, hsL, hfL⟩ := F₃.ns
        refine ⟨⟨oL, es, ep, hk₄ _ _ hLne (.inl fun l i _ => by rw [hdL]; exact fun e => by cases e) hoL, hdL, hsL, hfL⟩, fun b o e => hk₄ b o (fun hb => by rw [hb, hC0] at e; cases e) (.inr (by rw [e]; exact Option.some_ne_none _)) (F₃.keep b o e), F₃.above⟩
      have N₄ : News h₀ L h₄ ((wl, W.listOf us.toArray us.length) :: news) := fun p hp => by
        refine ⟨?_, (N₃ p hp).2⟩
        have e := (N₃ p hp).1
        rcases List.mem_cons.mp hp with rfl | hp
        · exact hk₄ _ _ (Ne.symm hCw) (.inl fun l i hc => absurd hc (by show Value.type "list" ≠ _; decide)) e
        · exact hk₄ _ _ (hNI p hp).2.1 (.inl (hNI p hp).1) e
      have st₄ : IsRangeIter h₄ I (0 + ((j + 1 : Nat) : Int) * 1) (((8 : Nat) : Int) - ((j + 1 : Nat) : Int)) 1 := hk₄ I _ hIC (.inl fun l i hc => absurd hc (by show Value.type "range_iterator" ≠ _; decide)) st₃
      refine wpAny_storeName_local law_size F₄.ns (fun h₅ hn₅ hs₅ => ?_) law_pl
      have F₅ := F₄.set hn₅ hs₅
      have N₅ := N₄.set hs₅
      have st₅ : IsRangeIter h₅ I (0 + ((j + 1 : Nat) : Int) * 1) (((8 : Nat) : Int) - ((j + 1 : Nat) : Int)) 1 := (hs₅.2 I hIL).trans st₄
      have W₅ := W₄.keeps (s' := { s with heap := h₅, gens := gens₄, toks := tk₄ + 1 }) rfl fun fp hfp p hp => (hs₅.2 _ (hfp p hp).2.1).trans (hfp p hp).1
      clear W₄ W₃ N₄ N₃ st₄ st₃ hn₅ hs₅ F₄ F₃'
      obtain ⟨x, tx, rfl, hx⟩ : ∃ x tx, v₄ = .int x tx ∧ (out j = some x ∨ (out j = none ∧ x = 0)) := by
        cases ho : out j with
        | some x => rw [ho] at hv₄; obtain ⟨tx, e⟩ := hv₄; exact ⟨x, tx, e, .inl rfl⟩
        | none => rw [ho] at hv₄; exact ⟨0, t, hv₄, .inr ⟨rfl, rfl⟩⟩
      have F₅' : Fr h₀ L h₅ (kstB (fun z => if z = Str.ofString "size" then some (.int x tx) else if z = Str.ofString "turn" then some v else m' z) [(Str.ofString "size", .int x tx), (Str.ofString "widths", .ref wl)]) := fr_kst F₅ fun p hp => by
        simp only [List.mem_cons, List.not_mem_nil, or_false] at hp
        rcases hp with rfl | rfl
        · exact if_pos rfl
        · show (if Str.ofString "widths" = Str.ofString "size" then _ else if Str.ofString "widths" = Str.ofString "turn" then _ else m' _) = _
          rw [if_neg (by decide), if_neg (by decide), hm' (Str.ofString "widths") (by decide) (by decide), mw]
      have hmm : ∀ z, z ≠ Str.ofString "turn" → z ≠ Str.ofString "size" → (fun z => if z = Str.ofString "size" then some (Value.int x tx) else if z = Str.ofString "turn" then some v else m' z) z = m z := fun z h1 h2 => by
        show (if z = Str.ofString "size" then _ else if z = Str.ofString "turn" then _ else m' z) = _
        rw [if_neg h2, if_neg h1, hm' z h1 h2]
      have hlen : us.length ≤ j := by
        rw [hU.length]
        exact Nat.le_trans (List.length_filterMap_le ..) (by rw [List.length_range]; exact Nat.le_refl _)
      refine wpAny_execs_cons (tn2 (s := { s with heap := h₅, gens := gens₄, toks := tk₄ + 1 }) (its := us.toArray) (n := us.length) B F₅' (newsHead N₅) (by rw [List.size_toArray, sizeLine_eq]; omega) T hdp hun (fun hx0 h₆ tk₆ hs₆ hw₆ => ?_) (fun hx0 tk₆ => ?_) X)
      · have ho : out j = some x := hx.elim id fun q => absurd hx0 (by rw [q.2]; decide)
        have hwL : wl ≠ L := (N₅ _ (List.mem_cons_self ..)).2.1
        have hw0 : h₀.get? wl = none := (N₅ _ (List.mem_cons_self ..)).2.2
        refine wpAny_execs_nil ⟨9 - (j + 1), by omega, h₆, tk₆, gens₄, _, us ++ [.int x tx], j + 1, rfl, hlt, rfl, (hs₆.2 I (fun e => hnI _ _ (N _ (List.mem_cons_self ..)).1 e.symm)).trans st₅, ⟨F₅.ns.at' fun o e => (hs₆.2 L (Ne.symm hwL)).trans e, fun b o e => (hs₆.2 b (fun hb => by rw [hb, hw0] at e; cases e)).trans (F₅.keep b o e), F₅.above⟩, hmm, ?_, ?_, ?_, hb₄⟩
        · intro p hp
          refine ⟨?_, ?_⟩
          · rcases List.mem_cons.mp hp with rfl | hp
            · show h₆.get? wl = _
              rw [hw₆, List.push_toArray, List.length_append]; rfl
            · exact (hs₆.2 _ (hNI p hp).2.2).trans (N₅ p (List.mem_cons_of_mem _ hp)).1
          · rcases List.mem_cons.mp hp with rfl | hp
            · exact ⟨hwL, hw0⟩
            · exact (N₅ p (List.mem_cons_of_mem _ hp)).2
        · rw [range_succ_out, ho]
          exact hU.append (.cons _ _ .nil)
        · refine W₅.keeps rfl fun fp hfp p hp => (hs₆.2 _ fun hpw => ?_).trans (hfp p hp).1
          rcases (hfp p hp).2.2.2 with e | e | e
          · exact hCw (e.symm.trans hpw)
          · exact hgw (e.symm.trans hpw)
          · have e1 := (hfp p hp).1
            rw [hpw, show ({ s with heap := h₅, gens := gens₄, toks := tk₄ + 1 } : Shared).heap.get? wl = some _ from (N₅ _ (List.mem_cons_self ..)).1] at e1
            rw [← Option.some.inj e1] at e
            exact absurd e (by show Value.type "list" ≠ _; decide)
      · have ho : out j = none := hx.elim (fun q => absurd (Int.lt_of_lt_of_le (by decide) (hpos j x q)) hx0) And.left
        refine wpAny_execs_nil ⟨9 - (j + 1), by omega, h₅, tk₆, gens₄, _, us, j + 1, rfl, hlt, rfl, st₅, F₅, hmm, N₅, ?_, W₅.keeps rfl fun fp hfp p hp => (hfp p hp).1, hb₄⟩
        rw [range_succ_out, ho]
        simpa using hU
    · obtain rfl : j = 8 := by omega
      refine (range_walks hh 0 8).done _ _ _ st fun h₂ tk₂ hk₂ => ?_
      obtain ⟨F₂, N₂⟩ := keepI h₂ hk₂
      exact wpAny_execs_nil (hQ us h₂ gens' tk₂ m' hU F₂ hm' N₂ hb')
  · refine ⟨_, _, s.gens, m, [], 0, rfl, by decide, rfl, ?_, F.keeps up, fun _ _ _ => rfl, fun p hp => ⟨up _ _ (N p hp).1, (N p hp).2⟩, .nil, WG.keeps rfl fun fp hfp p hp => up _ _ (hfp p hp).1, hbare⟩
    rw [← hI]
    exact Heap.get?_push_size _ rfl
end
end Mine
end
section
open PySem PySem.W PySem.Calls PyProof.Rows
set_option maxRecDepth 100000
set_option maxHeartbeats 4000000
namespace Mine
def tailOf (e : Int) : List Int := if e = 0 then [0, 5] else if e = 1 then [127, 5] else []
section
variable {w : World} {mean : ExcName → Option Value} {mg mb : Str → Option Value} {news : List (Addr × Obj)}
theorem st2 {dp un : Nat} {gd : Option (List Code)} {a : Addr} {ccd : Value} {outer : List Env} {A₀ : Around} {base h₀ : Heap} {L : Addr} {m : Str → Option Value} {s : Shared} {Q : Flow → Shared → Prop}
    (D : Addr) (sz : List Value) (zs : List Int) (hZ : IntsAre sz zs) (hz0 : 1 ≤ zs.length) (hz6 : zs.length ≤ 6) (e : Int) (te : Tok) (he : 0 ≤ e ∧ e < 3)
    (B : Below A₀ base outer h₀)
    (F : Fr h₀ L s.heap (kstB m [(Str.ofString "ending", .int e te), (Str.ofString "sizes", .ref D)]))
    (N : News h₀ L s.heap [(D, W.listOf sz.toArray 0)]) (T : Top hd.view_39 (looseW hd.view_39 []) mean mg mb h₀) (hdp : dp + 8 < recursionLimit) (hun : un + 80 < cLine)
    (hcall : ∀ (gl : Addr) (us : List Value) (h' : Heap) (tk' : Nat), IntsAre us (zs ++ tailOf e) → Fr h₀ L h' (kstB m [(Str.ofString "ending", .int e te), (Str.ofString "sizes", .ref D)]) → News h₀ L h' [(gl, W.listOf us.toArray 0)] → News h₀ L h' [(D, W.listOf sz.toArray 0)] → @LT.lt Nat _ D gl →
      wpAny (model PySem.Challenge.rw_pg0033_01.row.prog w) (lawTop dp un gd L a ccd outer) (call (.ref 77) [.ref gl]) (fun v s₁ => wpAny (model PySem.Challenge.rw_pg0033_01.row.prog w) (lawTop dp un gd L a ccd outer) (storeName (lawEnv L a ccd) (Str.ofString "walk") v) (fun _ => Q .next) (fun _ _ => False) s₁) (fun _ _ => False) { s with heap := h', toks := tk' }) :
    (hd.heap_39 w.params).In h₀ → 
    wpAny (model PySem.Challenge.rw_pg0033_01.row.prog w) (lawTop dp un gd L a ccd outer) (exec (nthS (defBody lawS) 2) (lawEnv L a ccd)) Q (fun _ _ => False) s := by
  k_with_none
  w_top off
  k_fill
  intro X
  dsimp only [lawTop, lawEnv]
  conv in (occs := *) (defScope lawS) => all_goals whnf
  conv in nthS (defBody lawS) 2 => whnf
  dsimp only [kstB] at F
  rcases (by omega : e = 0 ∨ e = 1 ∨ e = 2) with rfl | rfl | rfl
  all_goals (w_strict (
    k_steps
    exact hcall _ _ _ _ (by assumption) (by assumption) (newsLast (by assumption) (by k_mem)) (newsLast (by assumption) (by k_mem)) (by omega)))
end
end Mine
end
section
open PySem PySem.W PySem.Calls PyProof.Rows
set_option maxRecDepth 100000
set_option maxHeartbeats 4000000
namespace Mine
section
variable {w : World} {mean : ExcName → Option Value} {mg mb : Str → Option Value} {news : List (Addr × Obj)}
theorem law_walk {L a : Addr} {ccd : Value} : (lawEnv L a ccd).kindOf (Str.ofString "walk") = some .local := rfl
theorem law_pl' {L a : Addr} {ccd : Value} : ((lawEnv L a ccd).scope.kind == .class || ((lawEnv L a ccd).scope.kind == .module && (lawEnv L a ccd).locals != (lawEnv L a ccd).globals)) = false := rfl
theorem mkgen {dp un : Nat} {gd : Option (List Code)} {a : Addr} {ccd : Value} {outer : List Env} {h₀ : Heap} {L D gl : Addr} {m : Str → Option Value} {s : Shared} {Q : Shared → Prop} {oD : Obj} {us : List Value} {its : List Int} {nz : Nat} {out : Nat → Option Int}
    (hI : IntsAre us its) (O : OutOk its out nz) (T : Top hd.view_39 (looseW hd.view_39 []) mean mg mb h₀) (hdp : dp + 8 < recursionLimit)
    (F : Fr h₀ L s.heap m) (N : News h₀ L s.heap [(gl, W.listOf us.toArray 0)]) (N2 : News h₀ L s.heap [(D, oD)]) (hb : ∀ y ∈ s.gens, y.bare = true)
    (hQ : ∀ (C G : Addr) (oG oC : Obj) (nm qn : Value) (h' : Heap) (gens' : Array GenState) (tk' : Nat), L < C → h₀.get? C = none → gl ≠ C → D ≠ C → G ≠ C → @LT.lt Nat _ C h'.objs.size → @LT.lt Nat _ gl h'.objs.size → G ≠ gl →
      oG.cls = .type "generator" → oG.data = .fields #[.int s.gens.size 0, nm, qn] → oG.slots = #[] →
      Fr h₀ L h' (fun z => if z = Str.ofString "walk" then some (.ref G) else m z) → News h₀ L h' [(G, oG), (D, oD), (C, oC), (gl, W.listOf us.toArray 0)] → (∀ y ∈ gens', y.bare = true) →
      GW PySem.Challenge.rw_pg0033_01.row.prog w (lawTop dp un gd L a ccd outer).in1.in1 h₀ L C gl out s.gens.size 0 { s with heap := h', gens := gens', toks := tk' } → Q { s with heap := h', gens := gens', toks := tk' }) :
    (hd.heap_39 w.params).In h₀ → 
    wpAny (model PySem.Challenge.rw_pg0033_01.row.prog w) (lawTop dp un gd L a ccd outer) (call (.ref 77) [.ref gl]) (fun v s₁ => wpAny (model PySem.Challenge.rw_pg0033_01.row.prog w) (lawTop dp un gd L a ccd outer) (storeName (lawEnv L a ccd) (Str.ofString "walk") v) (fun _ => Q) (fun _ _ => False) s₁) (fun _ _ => False) s := by
  k_with_none
  w_top off
  k_fill
  intro X
  refine' call_gen (binds := [(Str.ofString "grouping", .ref gl)]) F X T ?ho ?hcd ?hroom ?hbind ?hloc ?h ?hco ?hgen ?hk ?hcell
  case ho => k_is
  case hcd => k_is
  case hroom => (show dp < recursionLimit; omega)
  case hbind => exact BindsTo.of_eq rfl
  case hloc => exact locs rfl
  case hco => exact rfl
  case hgen => exact rfl
  case hk => exact rfl
  case hcell => decide
  intro h₁ t1 t2 FC hsz1
  have hCL : @LT.lt Nat _ L s.heap.objs.size := F.ns.lt
  have hgl : @LT.lt Nat _ gl s.heap.objs.size := Heap.lt_size (N _ (List.mem_cons_self ..)).1
  have hDl : @LT.lt Nat _ D s.heap.objs.size := Heap.lt_size (N2 _ (List.mem_cons_self ..)).1
  have up : ∀ o' b o, s.heap.get? b = some o → (h₁.push o').get? b = some o := fun o' b o e => Heap.get?_push_of_some _ (FC.keep b o e)
  have F₁ : Fr h₀ L (h₁.push { cls := .type "generator", data := .fields #[.int s.gens.size 0, .str (Str.ofString "_grouping_intervals") t1, .str (Str.ofString "_grouping_intervals") t2] }) m := F.keeps (up _)
  refine wpAny_storeName_local law_walk F₁.ns (fun h₂ hn₂ hs₂ => ?_) law_pl'
  have F₂ := F₁.set hn₂ hs₂
  have hC0 : h₀.get? s.heap.objs.size = none := by
    cases hq : h₀.get? s.heap.objs.size with
    | none => rfl
    | some o' => exact absurd (Heap.lt_size (F.keep _ _ hq)) (Nat.lt_irrefl _)
  have hG0 : h₀.get? h₁.objs.size = none := by
    cases hq : h₀.get? h₁.objs.size with
    | none => rfl
    | some o' => exact absurd (Heap.lt_size (FC.keep _ _ (F.keep _ _ hq))) (Nat.lt_irrefl _)
  have hGL : @Ne Nat h₁.objs.size L := by omega
  have hgL : gl ≠ L := (N _ (List.mem_cons_self ..)).2.1
  have hDL : D ≠ L := (N2 _ (List.mem_cons_self ..)).2.1
  have hCL' : @Ne Nat s.heap.objs.size L := by omega
  obtain ⟨oC, es, ep, hoC, hdC, hsC, hfC⟩ := FC.ns
  have hoC₂ : h₂.get? s.heap.objs.size = some oC := (hs₂.2 _ hCL').trans (Heap.get?_push_of_some _ hoC)
  have hog₂ : h₂.get? gl = some (W.listOf us.toArray 0) := (hs₂.2 _ hgL).trans (up _ _ _ (N _ (List.mem_cons_self ..)).1)
  have hoG₂ : h₂.get? h₁.objs.size = some { cls := .type "generator", data := .fields #[.int s.gens.size 0, .str (Str.ofString "_grouping_intervals") t1, .str (Str.ofString "_grouping_intervals") t2] } := (hs₂.2 _ hGL).trans (Heap.get?_push_size _ rfl)
  refine hQ s.heap.objs.size h₁.objs.size { cls := .type "generator", data := .fields #[.int s.gens.size 0, .str (Str.ofString "_grouping_intervals") t1, .str (Str.ofString "_grouping_intervals") t2] } oC (.str (Str.ofString "_grouping_intervals") t1) (.str (Str.ofString "_grouping_intervals") t2) h₂ _ _ hCL hC0 (Nat.ne_of_lt hgl) (Nat.ne_of_lt hDl) (by show @Ne Nat _ _; omega) (Heap.lt_size hoC₂) (Heap.lt_size hog₂) (by show @Ne Nat _ _; omega) rfl rfl rfl F₂ ?_ ?_ ?_
  · intro p hp
    rcases List.mem_cons.mp hp with rfl | hp
    · exact ⟨hoG₂, hGL, hG0⟩
    rcases List.mem_cons.mp hp with rfl | hp
    · exact ⟨(hs₂.2 _ hDL).trans (up _ _ _ (N2 _ (List.mem_cons_self ..)).1), (N2 _ (List.mem_cons_self ..)).2⟩
    rcases List.mem_cons.mp hp with rfl | hp
    · exact ⟨hoC₂, hCL', hC0⟩
    · rw [List.mem_singleton.mp hp]
      exact ⟨hog₂, (N _ (List.mem_cons_self ..)).2⟩
  · intro y hy
    rcases Array.mem_push.mp hy with h | rfl
    · exact hb y h
    · rfl
  · intro _
    refine ⟨_, Array.getElem?_push_size .., .inr ⟨[(s.heap.objs.size, oC), (gl, W.listOf us.toArray 0)], fun p hp => ?_, fun s'' h0 hal => ⟨rfl, ?_⟩⟩⟩
    · rcases List.mem_cons.mp hp with rfl | hp
      · exact ⟨hoC₂, hCL', hC0, .inl rfl⟩
      · rw [List.mem_singleton.mp hp]
        exact ⟨hog₂, hgL, (N _ (List.mem_cons_self ..)).2.2, .inr (.inl rfl)⟩
    · refine seg_gen (cd := .ref 76) (us := us) rfl T X hCL (Nat.ne_of_lt hgl) hgL (N _ (List.mem_cons_self ..)).2.2 O hI (m := fun y => List.lookup y [(Str.ofString "grouping", Value.ref gl)].reverse) ⟨⟨oC, es, ep, hal (s.heap.objs.size, oC) (.head _), hdC, hsC, hfC⟩, h0, Nat.le_trans F.above (Nat.le_of_lt hCL)⟩ rfl ⟨_, hal (gl, _) (.tail _ (.head _)), rfl, _, rfl⟩ (Kp.refl _ _ _)
end
end Mine
end
section
open PySem PySem.W PyProof.Rows
namespace Mine
def outOf (zs : List Int) (b : Bool) (i : Nat) : Option Int := if i < zs.length then zs[i]? else if b then zs.getLast? else none
theorem tail_0 : tailOf 0 = [0, 5] := rfl
theorem tail_1 : tailOf 1 = [127, 5] := rfl
theorem tail_2 : tailOf 2 = [] := rfl
theorem out_lt {zs : List Int} {b : Bool} {i : Nat} (h : i < zs.length) : outOf zs b i = zs[i]? := if_pos h
theorem out_ge {zs : List Int} {b : Bool} {i : Nat} (h : ¬ i < zs.length) : outOf zs b i = if b then zs.getLast? else none := if_neg h
theorem outOk {zs : List Int} (hz0 : 1 ≤ zs.length) (hz : ∀ x ∈ zs, 1 ≤ x ∧ x ≤ 6) {e : Int} (he : 0 ≤ e ∧ e < 3) : OutOk (zs ++ tailOf e) (outOf zs (e == 0)) zs.length := by
  have inz : ∀ i x, i < zs.length → (zs ++ tailOf e)[i]? = some x → zs[i]? = some x ∧ 1 ≤ x ∧ x ≤ 6 := fun i x hi h => by
    rw [List.getElem?_append_left hi] at h
    exact ⟨h, hz x (List.mem_of_getElem? h)⟩
  have atz : ∀ i, i ≤ zs.length → ¬ i < zs.length → (zs ++ tailOf e)[i]? = (tailOf e)[0]? := fun i h1 h2 => by
    rw [List.getElem?_append_right (by omega), show i - zs.length = 0 by omega]
  refine ⟨fun i hi h => ?_, fun i hi h => ?_, fun i hi h => ?_, fun i x hi h h0 h127 => ?_⟩
  · by_cases hlt : i < zs.length
    · rw [List.getElem?_append_left hlt, List.getElem?_eq_getElem hlt] at h; cases h
    · rw [atz i hi hlt] at h
      rcases (by omega : e = 0 ∨ e = 1 ∨ e = 2) with rfl | rfl | rfl
      · rw [tail_0] at h; cases h
      · rw [tail_1] at h; cases h
      · rw [out_ge hlt]; rfl
  · by_cases hlt : i < zs.length
    · have := inz i _ hlt h; omega
    · rw [atz i hi hlt] at h
      rcases (by omega : e = 0 ∨ e = 1 ∨ e = 2) with rfl | rfl | rfl
      · rw [tail_0] at h; cases h
      · rw [out_ge hlt]; rfl
      · rw [tail_2] at h; cases h
  · by_cases hlt : i < zs.length
    · have := inz i _ hlt h; omega
    · rw [atz i hi hlt] at h
      rcases (by omega : e = 0 ∨ e = 1 ∨ e = 2) with rfl | rfl | rfl
      · have hi' : i = zs.length := by omega
        subst hi'
        have hl : zs.length - 1 < zs.length := by omega
        refine ⟨hz0, zs[zs.length - 1], ?_, fun j hj => ?_⟩
        · rw [List.getElem?_append_left hl, List.getElem?_eq_getElem hl]
        · rw [out_ge (by omega)]
          show zs.getLast? = _
          rw [List.getLast?_eq_getElem?, List.getElem?_eq_getElem hl]
      · rw [tail_1] at h; cases h
      · rw [tail_2] at h; cases h
  · by_cases hlt : i < zs.length
    · obtain ⟨h1, _⟩ := inz i _ hlt h
      exact ⟨by rw [out_lt hlt, h1], hlt⟩
    · rw [atz i hi hlt] at h
      rcases (by omega : e = 0 ∨ e = 1 ∨ e = 2) with rfl | rfl | rfl
      · rw [tail_0] at h; cases h; exact absurd rfl h0
      · rw [tail_1] at h; cases h; exact absurd rfl h127
      · rw [tail_2] at h; cases h
theorem out_mono {zs : List Int} {b : Bool} (j : Nat) (h : outOf zs b j = none) (j' : Nat) (hj : j ≤ j') : outOf zs b j' = none := by
  by_cases hlt : j < zs.length
  · rw [out_lt hlt, List.getElem?_eq_getElem hlt] at h; cases h
  · rw [out_ge hlt] at h
    rw [out_ge (by omega), h]
theorem out_pos {zs : List Int} {b : Bool} (hz : ∀ x ∈ zs, 1 ≤ x ∧ x ≤ 6) (j : Nat) (x : Int) (h : outOf zs b j = some x) : 1 ≤ x ∧ x ≤ 6 := by
  by_cases hlt : j < zs.length
  · rw [out_lt hlt] at h; exact hz x (List.mem_of_getElem? h)
  · rw [out_ge hlt] at h
    cases b with
    | true => exact hz x (List.mem_of_getLast? h)
    | false => cases h
theorem out_all {zs : List Int} (h0 : 1 ≤ zs.length) (h6 : zs.length ≤ 6) : (List.range 8).filterMap (outOf zs true) = zs ++ (List.replicate (8 - (zs.length : Int)).toNat (List.drop (zs.length - 1) zs)).flatten ∧ (List.range 8).filterMap (outOf zs false) = zs := by
  match zs, h0, h6 with
  | [], h0, _ => exact absurd h0 (by decide)
  | [_], _, _ => exact ⟨rfl, rfl⟩
  | [_, _], _, _ => exact ⟨rfl, rfl⟩
  | [_, _, _], _, _ => exact ⟨rfl, rfl⟩
  | [_, _, _, _], _, _ => exact ⟨rfl, rfl⟩
  | [_, _, _, _, _], _, _ => exact ⟨rfl, rfl⟩
  | [_, _, _, _, _, _], _, _ => exact ⟨rfl, rfl⟩
  | _ :: _ :: _ :: _ :: _ :: _ :: _ :: r, _, h6 => simp only [List.length_cons] at h6; omega
theorem sizes_ok (ns : List Int) : (∀ x ∈ sizesOf ns, 1 ≤ x ∧ x ≤ 6) ∧ 1 ≤ (sizesOf ns).length ∧ (sizesOf ns).length ≤ 6 := by
  refine ⟨fun x hx => ?_, ?_, ?_⟩
  · unfold sizesOf at hx
    rcases List.mem_cons.mp hx with rfl | hx
    · decide
    · obtain ⟨y, _, rfl⟩ := List.mem_map.mp hx
      rw [Int.fmod_eq_emod_of_nonneg _ (by decide)]
      omega
  · simp [sizesOf]
  · simp only [sizesOf, List.length_cons, List.length_map]
    have := List.length_take_le (min 6 ns.length - 1) (List.drop 1 ns)
    omega
end Mine
end
section
open PySem PySem.W PySem.Calls PyProof.Rows
set_option maxRecDepth 100000
set_option maxHeartbeats 4000000
namespace Mine
theorem execs_law (env : Env) : execs (defBody lawS) env = execs (nthS (defBody lawS) 0 :: nthS (defBody lawS) 1 :: nthS (defBody lawS) 2 :: nthS (defBody lawS) 3 :: nthS (defBody lawS) 4 :: nthS (defBody lawS) 5 :: (defBody lawS).drop 6) env := rfl
section
variable {w : World} {mean : ExcName → Option Value} {mg mb : Str → Option Value}
theorem lawAll {dp un : Nat} {gd : Option (List Code)} {a : Addr} {ccd : Value} {outer : List Env} {A₀ : Around} {base h₀ : Heap} {L : Addr} {m : Str → Option Value} {s : Shared} {Q : Flow → Shared → Prop}
    (sl : Addr) (sv : List Value) (ns : List Int) (hsI : IntsAre sv ns) (hs63 : ns.length ≤ 63) (hLay : (PyData.list (List.map PyData.int ns)).layable0 = true) (hsl : h₀.IsList sl sv.toArray)
    (B : Below A₀ base outer h₀)
    (F : Fr h₀ L s.heap m) (mS : m (Str.ofString "script") = some (.ref sl)) (hb : ∀ y ∈ s.gens, y.bare = true)
    (T : Top hd.view_39 (looseW hd.view_39 []) mean mg mb h₀) (hdp : dp + 8 < recursionLimit) (hun : un + 80 < cLine)
    (X : (hd.heap_39 w.params).In h₀)
    (hQ : ∀ (h' : Heap) (gens' : Array GenState) (tk' : Nat) (m' : Str → Option Value), Fr h₀ L h' m' → (∀ y ∈ gens', y.bare = true) → Q (.ret (.bool true)) { s with heap := h', gens := gens', toks := tk' }) :
    wpAny (model PySem.Challenge.rw_pg0033_01.row.prog w) (lawTop dp un gd L a ccd outer) (execs (defBody lawS) (lawEnv L a ccd)) Q (fun _ _ => False) s := by
  obtain ⟨hz, hz0, hz6⟩ := sizes_ok ns
  rw [execs_law]
  refine wpAny_execs_cons (st0 (m := m) sl sv ns hsI hs63 hLay hsl B (fr_kst F fun p hp => ?_) News.nil T hdp hun (fun D sz h₁ tk₁ hZ F₁ N₁ => ?_) X)
  · rw [List.mem_singleton.mp hp]; exact mS
  dsimp only
  refine wpAny_execs_cons (st1 (m := m) sl sv ns hsI hs63 hLay hsl D sz B F₁ N₁ T hdp hun (fun e te h₂ tk₂ he F₂ N₂ => ?_) X)
  dsimp only
  refine wpAny_execs_cons (st2 (m := kstB m [(Str.ofString "script", .ref sl)]) D sz (sizesOf ns) hZ hz0 hz6 e te he B F₂ N₂ T hdp hun (fun gl us h₃ tk₃ hI₃ F₃ N₃ N₃' hDg => ?_) X)
  dsimp only
  refine mkgen (s := { s with heap := h₃, toks := tk₃ }) (D := D) (oD := W.listOf sz.toArray 0) hI₃ (outOk hz0 hz he) T hdp F₃ N₃ N₃' hb (fun C G oG oC nm qn h₄ gens₄ tk₄ hLC hC0 hgC hDC hGC hCs hgs hGg hGc hGd hGs F₄ N₄ hb₄ W₄ => ?_) X
  dsimp only
  obtain ⟨fp, Nfp, hfp⟩ : ∃ fp, News h₀ L h₄ fp ∧ ∀ (h' : Heap) (tk' : Nat), (∀ p ∈ fp, h'.get? p.1 = some p.2) → GW PySem.Challenge.rw_pg0033_01.row.prog w (lawTop dp un gd L a ccd outer).in1.in1 h₀ L C gl (outOf (sizesOf ns) (e == 0)) s.gens.size 0 { s with heap := h', gens := gens₄, toks := tk' } := by
    obtain ⟨gs, hgs', hcase⟩ := W₄ (by decide)
    rcases hcase with ⟨rfl, hout⟩ | ⟨fp, hfp, hgo⟩
    · exact ⟨[], News.nil, fun h' tk' _ _ => ⟨_, hgs', .inl ⟨rfl, hout⟩⟩⟩
    · exact ⟨fp, fun p hp => ⟨(hfp p hp).1, (hfp p hp).2.1, (hfp p hp).2.2.1⟩, fun h' tk' hal _ => ⟨gs, hgs', .inr ⟨fp, fun p hp => ⟨hal p hp, (hfp p hp).2⟩, hgo⟩⟩⟩
  refine wpAny_execs_cons (st3 (news := fp ++ [(G, oG), (D, W.listOf sz.toArray 0), (C, oC), (gl, W.listOf us.toArray 0)]) (s := { s with heap := h₄, gens := gens₄, toks := tk₄ }) B F₄ (fun p hp => (List.mem_append.mp hp).elim (Nfp p) (N₄ p)) T hdp hun (fun wl h₅ tk₅ F₅ hlt₅ N₅ => ?_) X)
  dsimp only
  have inN : ∀ p ∈ [(G, oG), (D, W.listOf sz.toArray 0), (C, oC), (gl, W.listOf us.toArray 0)], h₅.get? p.1 = some p.2 ∧ p.1 < wl := fun p hp => ⟨(N₅ p (List.mem_cons_of_mem _ (List.mem_append_right _ hp))).1, hlt₅ p (List.mem_append_right _ hp)⟩
  have hG5 := inN _ (.head _)
  have hD5 := inN _ (.tail _ (.head _))
  have hC5 := inN _ (.tail _ (.tail _ (.head _)))
  have hg5 := inN _ (.tail _ (.tail _ (.tail _ (.head _))))
  have N₅' : News h₀ L h₅ ((wl, W.listOf (([] : List Value).toArray) 0) :: [(G, oG), (D, W.listOf sz.toArray 0)]) := fun p hp => by
    rcases List.mem_cons.mp hp with rfl | hp
    · exact N₅ _ (.head _)
    · refine N₅ p (.tail _ (List.mem_append_right _ ?_))
      rcases List.mem_cons.mp hp with rfl | hp
      · exact .head _
      · rw [List.mem_singleton.mp hp]; exact .tail _ (.head _)
  have m5W : ∀ z v, (if z = Str.ofString "widths" then some (Value.ref wl) else if z = Str.ofString "walk" then some (.ref G) else kstB (kstB m [(Str.ofString "script", .ref sl)]) [(Str.ofString "ending", .int e te), (Str.ofString "sizes", .ref D)] z) = some v →
      (kstB (fun z => if z = Str.ofString "walk" then some (Value.ref G) else kstB (kstB m [(Str.ofString "script", .ref sl)]) [(Str.ofString "ending", .int e te), (Str.ofString "sizes", .ref D)] z) [(Str.ofString "widths", .ref wl)]) z = some v := fun z v h => h
  refine wpAny_execs_cons (st4 (s := { s with heap := h₅, gens := gens₄, toks := tk₅ }) (news := [(G, oG), (D, W.listOf sz.toArray 0)]) (g := s.gens.size) (C := C) (gl := gl) (out := outOf (sizesOf ns) (e == 0)) out_mono (fun j x h => (out_pos hz j x h).1) B T X hdp hun F₅ (m5W _ _ ?mW) (m5W _ _ ?mw) N₅' ?hNI (.head _) hGc hGd hGs (Nat.ne_of_lt hC5.2) (Nat.ne_of_lt hg5.2) hC0 hLC (Heap.lt_size hC5.1) (Heap.lt_size hg5.1) hb₄ (hfp h₅ tk₅ fun p hp => (N₅ p (List.mem_cons_of_mem _ (List.mem_append_left _ hp))).1) (fun us₆ h₆ gens₆ tk₆ m₆ hI₆ F₆ hm₆ N₆ hb₆ => ?_))
  case mW => rw [if_neg (by decide), if_pos rfl]
  case mw => rw [if_pos rfl]
  case hNI =>
    intro p hp
    rcases List.mem_cons.mp hp with rfl | hp
    · exact ⟨fun l i hc => by rw [hGc] at hc; exact absurd hc (by decide), hGC, Nat.ne_of_lt hG5.2⟩
    · rw [List.mem_singleton.mp hp]
      exact ⟨fun l i hc => absurd hc (by show Value.type "list" ≠ _; decide), hDC, Nat.ne_of_lt hD5.2⟩
  dsimp only
  obtain ⟨oa1, oa2⟩ := out_all hz0 hz6
  have hw8 : ((List.range 8).filterMap (outOf (sizesOf ns) (e == 0))).length ≤ 8 := Nat.le_trans (List.length_filterMap_le ..) (by decide)
  have hw16 : ∀ n ∈ (List.range 8).filterMap (outOf (sizesOf ns) (e == 0)), 1 ≤ n ∧ n ≤ 6 := fun n hn => by
    obtain ⟨j, _, hj⟩ := List.mem_filterMap.mp hn
    exact out_pos hz j n hj
  have hE0 : e = 0 → (List.range 8).filterMap (outOf (sizesOf ns) (e == 0)) = sizesOf ns ++ (List.replicate (8 - ((sizesOf ns).length : Int)).toNat (List.drop ((sizesOf ns).length - 1) (sizesOf ns))).flatten := fun h => by
    rw [show (e == 0) = true by simp [h]]; exact oa1
  have hE1 : e ≠ 0 → (List.range 8).filterMap (outOf (sizesOf ns) (e == 0)) = sizesOf ns := fun h => by
    rw [show (e == 0) = false by simp [h]]; exact oa2
  have hw1 : 0 < ((List.range 8).filterMap (outOf (sizesOf ns) (e == 0))).length := by
    by_cases h : e = 0
    · rw [hE0 h, List.length_append]; omega
    · rw [hE1 h]; omega
  generalize (List.range 8).filterMap (outOf (sizesOf ns) (e == 0)) = ws at *
  have k5 : ∀ z v, z ≠ Str.ofString "turn" → z ≠ Str.ofString "size" → (if z = Str.ofString "widths" then some (Value.ref wl) else if z = Str.ofString "walk" then some (.ref G) else if z = Str.ofString "ending" then some (.int e te) else if z = Str.ofString "sizes" then some (.ref D) else if z = Str.ofString "script" then some (.ref sl) else m z) = some v → m₆ z = some v := fun z v h1 h2 h => (hm₆ z h1 h2).trans h
  have F₆' : Fr h₀ L h₆ (kstB m₆ [(Str.ofString "widths", .ref wl), (Str.ofString "ending", .int e te), (Str.ofString "sizes", .ref D)]) := fr_kst F₆ fun p hp => by
    simp only [List.mem_cons, List.not_mem_nil, or_false] at hp
    rcases hp with rfl | rfl | rfl
    · exact k5 (Str.ofString "widths") _ (by decide) (by decide) (if_pos rfl)
    · refine k5 (Str.ofString "ending") _ (by decide) (by decide) ?_
      rw [if_neg (by decide), if_neg (by decide), if_pos rfl]
    · refine k5 (Str.ofString "sizes") _ (by decide) (by decide) ?_
      rw [if_neg (by decide), if_neg (by decide), if_neg (by decide), if_pos rfl]
  have N₆' : News h₀ L h₆ [(wl, W.listOf us₆.toArray us₆.length), (D, W.listOf sz.toArray 0)] := fun p hp => by
    rcases List.mem_cons.mp hp with rfl | hp
    · exact N₆ _ (.head _)
    · rw [List.mem_singleton.mp hp]; exact N₆ _ (.tail _ (.tail _ (.head _)))
  refine wpAny_execs_cons (st5 (s := { s with heap := h₆, gens := gens₆, toks := tk₆ }) wl D us₆ sz ws (sizesOf ns) hI₆ hZ hz0 hz6 hw8 e te B F₆' N₆' T hdp hun hE0 hE1 (fun h₇ tk₇ F₇ N₇ => ?_) X)
  dsimp only
  have F₇' : Fr h₀ L h₇ (kstB (kstB m₆ [(Str.ofString "widths", .ref wl), (Str.ofString "ending", .int e te), (Str.ofString "sizes", .ref D)]) [(Str.ofString "script", .ref sl), (Str.ofString "widths", .ref wl)]) := fr_kst F₇ fun p hp => by
    simp only [List.mem_cons, List.not_mem_nil, or_false] at hp
    rcases hp with rfl | rfl
    · show (if Str.ofString "script" = Str.ofString "widths" then some (Value.ref wl) else if Str.ofString "script" = Str.ofString "ending" then some (Value.int e te) else if Str.ofString "script" = Str.ofString "sizes" then some (Value.ref D) else m₆ (Str.ofString "script")) = some (Value.ref sl)
      rw [if_neg (by decide), if_neg (by decide), if_neg (by decide)]
      refine k5 (Str.ofString "script") _ (by decide) (by decide) ?_
      rw [if_neg (by decide), if_neg (by decide), if_neg (by decide), if_neg (by decide), if_pos rfl]
    · show (if Str.ofString "widths" = Str.ofString "widths" then some (Value.ref wl) else if Str.ofString "widths" = Str.ofString "ending" then some (Value.int e te) else if Str.ofString "widths" = Str.ofString "sizes" then some (Value.ref D) else m₆ (Str.ofString "widths")) = some (Value.ref wl)
      exact if_pos rfl
  exact phB (s := { s with heap := h₇, gens := gens₆, toks := tk₇ }) (news := []) wl us₆ ws us₆.length hI₆ hw16 hw8 hw1 sl sv ns hsI hs63 hLay hsl B F₇' N₇ T hdp hun (swar_ok ws hw16) (fun h' tk' m' F' => hQ h' gens₆ tk' m' F' hb₆) X
end
end Mine
end
section
open PySem PySem.W PyProof.Rows
set_option maxRecDepth 100000
namespace Mine
theorem topAt {L a : Addr} {ccd : Value} : callerA.deeper (lawEnv L a ccd) = lawTop (callerA.deeper (lawEnv L a ccd)).depth (callerA.deeper (lawEnv L a ccd)).units (callerA.deeper (lawEnv L a ccd)).guards L a ccd [] := rfl
theorem topDp {L a : Addr} {ccd : Value} : (callerA.deeper (lawEnv L a ccd)).depth + 8 < recursionLimit := by
  show callerA.depth + 1 + 8 < recursionLimit
  decide
theorem topUn {L a : Addr} {ccd : Value} : (callerA.deeper (lawEnv L a ccd)).units + 80 < cLine := by
  simp only [units_deeper, units_caller]
  decide
end Mine
end
section
open PySem PySem.W PyProof.Rows
set_option maxRecDepth 100000
set_option maxHeartbeats 8000000
namespace Mine
theorem lawCaller {w : World} {mean : ExcName → Option Value} {mg mb : Str → Option Value} {s₁ : Shared} {fa : Addr} {cd : Value} {Q : Flow → Shared → Prop} {E : Value → Shared → Prop} {h₁ : Heap} {tk : Nat}
    (sl : Addr) (sv : List Value) (ns : List Int) (hsI : IntsAre sv ns) (hs63 : ns.length ≤ 63) (hLay : (PyData.list (List.map PyData.int ns)).layable0 = true) (hsl : s₁.heap.IsList sl sv.toArray)
    (F : Fr s₁.heap s₁.heap.objs.size h₁ (fun x => List.lookup x [(Str.ofString "script", Value.ref sl)].reverse)) (hg : s₁.gens = #[])
    (T : Top hd.view_39 (looseW hd.view_39 []) mean mg mb s₁.heap) (X : (hd.heap_39 w.params).In s₁.heap)
    (hQ : ∀ (h' : Heap) (gens' : Array GenState) (tk' : Nat), (∀ b o, s₁.heap.get? b = some o → h'.get? b = some o) → AllBare gens' → Q (.ret (.bool true)) { s₁ with heap := h', gens := gens', toks := tk' }) :
    wpAny (model PySem.Challenge.rw_pg0033_01.row.prog w) (callerA.deeper (lawEnv s₁.heap.objs.size fa cd)) (execs (defBody lawS) (lawEnv s₁.heap.objs.size fa cd)) Q E { s₁ with heap := h₁, toks := tk } := by
  rw [topAt]
  refine wpAny_mono (lawAll (s := { s₁ with heap := h₁, toks := tk }) (outer := []) (A₀ := callerA) (base := s₁.heap) sl sv ns hsI hs63 hLay hsl (below_caller s₁.heap) F rfl ?_ T topDp topUn X (Q := Q) fun h' gens' tk' m' F' hb' => ?_) (fun _ _ x => x) (fun _ _ e => False.elim e)
  · intro y hy
    rw [show ({ s₁ with heap := h₁, toks := tk } : Shared).gens = #[] from hg] at hy
    simp at hy
  · exact hQ h' gens' tk' F'.keep hb'
theorem main : PySem.Challenge.rw_pg0033_01.Holds := hd (by
  k_with_none
  w_top off
  k_fill
  intro w s₀ s₁ mg mb G Y fa o pm cd doc dV kV ho hd hcd hD hmg hg args vals as hpre hlay hrd hwl hlo
  have KX := kIn_of Y
  have X := (Ground.X G).1
  have V := (Ground.X G).2
  refine Ground.open G ?_
  intro T B D TE TW
  try (refine guard_noD D (by decide +kernel) ?_; clear D)
  obtain ⟨_, _, M⟩ := bmod_of_top T
  have TA := at_of_top T
  try (obtain ⟨_, _, he, B0⟩ := based_of_top T rfl hmg ho hd; have he' : cd = _ := he; subst he'; clear he)
  clear hmg
  wrow_args hpre hlay hrd hwl hlo
  all_goals (
    first | refine callC_kw (enter_call ?_) | refine enter_call ?_ | refine callC_kw (enter_callW ?_) | refine enter_callW ?_ | w_how
    w_top on
    w_call any ho hd hcd hD T F
    refine lawCaller _ _ _ (by assumption) (by omega) (by assumption) (by assumption) F hg T KX ?_
    intro h' gens' tk' hk hb'
    refine ⟨.inl ⟨.bool true, .bool true, [], rfl, fun _ => rfl, .bool _, ?_, fun _ => ⟨.nil, fun _ h => nomatch h⟩⟩, .of_keep hk, rfl, hb'⟩
    kernel_rfl))
end Mine
end
open PySem PySem.W PyProof.Rows
theorem PySem.Challenge.cw_pg0033_01_holds : PySem.Challenge.rw_pg0033_01.Holds := by
  exact Mine.main
