import PyProof.Rows.All
import Wide.All
import OpenK.AllK
import Wide.FinOn
import PySem.Challenge.RW_dp0025_01
open PySem PySem.W PySem.W.X PyProof.Rows
set_option Elab.async false
set_option maxRecDepth 100000
namespace Mine
/-- x[a .. a+d) is less than each of its own ends, by a letter -/
def Lyn (x : Nat → Int) (a d : Nat) : Prop := ∀ k, 1 ≤ k → k < d → ∃ m, k + m < d ∧ x (a + m) < x (a + k + m) ∧ ∀ m', m' < m → x (a + m') = x (a + k + m')
/-- x[p .. i) has the period d -/
def Per (x : Nat → Int) (p d i : Nat) : Prop := ∀ m, p ≤ m → m + d < i → x (m + d) = x m
theorem Per.mul {x : Nat → Int} {p d i : Nat} (P : Per x p d i) : ∀ (q m : Nat), p ≤ m → m + q * d < i → x (m + q * d) = x m
  | 0, m, _, _ => by simp
  | q + 1, m, hm, h => by
    have e : m + (q + 1) * d = (m + q * d) + d := by rw [Nat.succ_mul]; omega
    rw [e] at h ⊢
    rw [P (m + q * d) (by omega) h]
    exact P.mul q m hm (by omega)
theorem lyn_grow {x : Nat → Int} {p d i : Nat} (hd : 1 ≤ d) (hi : p + d ≤ i) (L : Lyn x p d) (P : Per x p d i) (g : x (i - d) < x i) : Lyn x p (i + 1 - p) := by
  intro k hk hk2
  obtain ⟨q, b, hb, rfl⟩ : ∃ q b, b < d ∧ k = b + q * d := ⟨k / d, k % d, Nat.mod_lt _ (by omega), by rw [Nat.mul_comm]; exact (Nat.mod_add_div k d).symm⟩
  by_cases hb0 : b = 0
  · subst hb0
    have hq : 1 ≤ q := by
      cases q with
      | zero => simp at hk
      | succ q => omega
    obtain ⟨q, rfl⟩ : ∃ q', q = q' + 1 := ⟨q - 1, by omega⟩
    have e1 : (q + 1) * d = q * d + d := Nat.succ_mul q d
    refine ⟨i - p - (0 + (q + 1) * d), by omega, ?_, fun m' hm' => ?_⟩
    · have e2 : p + (0 + (q + 1) * d) + (i - p - (0 + (q + 1) * d)) = i := by omega
      rw [e2]
      have e3 : i - d = (p + (i - p - (0 + (q + 1) * d))) + q * d := by omega
      rw [e3, P.mul q _ (by omega) (by omega)] at g
      exact g
    · have e4 : p + (0 + (q + 1) * d) + m' = (p + m') + (q + 1) * d := by omega
      rw [e4, P.mul (q + 1) _ (by omega) (by omega)]
  · obtain ⟨m, h1, h2, h3⟩ := L b (by omega) hb
    by_cases hc : p + (b + q * d) + m < i
    · refine ⟨m, by omega, ?_, fun m' hm' => ?_⟩
      · have e : p + (b + q * d) + m = (p + b + m) + q * d := by omega
        rw [e, P.mul q _ (by omega) (by omega)]
        exact h2
      · have e : p + (b + q * d) + m' = (p + b + m') + q * d := by omega
        rw [e, P.mul q _ (by omega) (by omega)]
        exact h3 m' hm'
    · have hq : 1 ≤ q := by
        cases q with
        | zero => simp at hc hk2; omega
        | succ q => omega
      obtain ⟨q, rfl⟩ : ∃ q', q = q' + 1 := ⟨q - 1, by omega⟩
      have e1 : (q + 1) * d = q * d + d := Nat.succ_mul q d
      refine ⟨i - p - (b + (q + 1) * d), by omega, ?_, fun m' hm' => ?_⟩
      · have e2 : p + (b + (q + 1) * d) + (i - p - (b + (q + 1) * d)) = i := by omega
        rw [e2]
        have e3 : i - d = (p + b + (i - p - (b + (q + 1) * d))) + q * d := by omega
        rw [e3, P.mul q _ (by omega) (by omega)] at g
        by_cases hm : i - p - (b + (q + 1) * d) < m
        · rw [h3 _ hm]; exact g
        · have : i - p - (b + (q + 1) * d) = m := by omega
          rw [this] at g ⊢
          exact Int.lt_trans h2 g
      · have e : p + (b + (q + 1) * d) + m' = (p + b + m') + (q + 1) * d := by omega
        rw [e, P.mul (q + 1) _ (by omega) (by omega)]
        exact h3 m' (by omega)

/-- Python's order of lists of ints -/
def pyLe : List Int → List Int → Bool
  | [], _ => true
  | _ :: _, [] => false
  | a :: as, b :: bs => if a = b then pyLe as bs else decide (a ≤ b)
def pyLt : List Int → List Int → Bool
  | [], [] => false
  | [], _ :: _ => true
  | _ :: _, [] => false
  | a :: as, b :: bs => if a = b then pyLt as bs else decide (a < b)
def slc (x : Nat → Int) (a : Nat) : Nat → List Int
  | 0 => []
  | d + 1 => x a :: slc x (a + 1) d
theorem slc_drop {x : Nat → Int} : ∀ (k a d : Nat), (slc x a d).drop k = slc x (a + k) (d - k)
  | 0, _, _ => by simp
  | k + 1, a, 0 => by simp [slc]
  | k + 1, a, d + 1 => by
    show (slc x (a + 1) d).drop k = _
    rw [slc_drop k (a + 1) d, Nat.add_sub_add_right]
    congr 1; omega
theorem le_diff {x : Nat → Int} : ∀ (m a b d e : Nat), m < d → m < e → (∀ m', m' < m → x (a + m') = x (b + m')) → x (b + m) < x (a + m) → pyLe (slc x a d) (slc x b e) = false
  | 0, a, b, d + 1, e + 1, _, _, _, h => by
    have h : x b < x a := h
    show (if x a = x b then _ else decide (x a ≤ x b)) = false
    rw [if_neg (by omega)]; exact decide_eq_false (by omega)
  | m + 1, a, b, d + 1, e + 1, h1, h2, h3, h4 => by
    have h0 : x a = x b := h3 0 (by omega)
    show (if x a = x b then pyLe (slc x (a + 1) d) (slc x (b + 1) e) else decide (x a ≤ x b)) = false
    rw [if_pos h0]
    refine le_diff m (a + 1) (b + 1) d e (by omega) (by omega) (fun m' hm' => ?_) ?_
    · have := h3 (m' + 1) (by omega)
      rw [show a + (m' + 1) = a + 1 + m' by omega, show b + (m' + 1) = b + 1 + m' by omega] at this
      exact this
    · rw [show a + 1 + m = a + (m + 1) by omega, show b + 1 + m = b + (m + 1) by omega]; exact h4
theorem lt_diff {x : Nat → Int} : ∀ (m a b d e : Nat), m < d → m < e → (∀ m', m' < m → x (a + m') = x (b + m')) → x (b + m) < x (a + m) → pyLt (slc x a d) (slc x b e) = false
  | 0, a, b, d + 1, e + 1, _, _, _, h => by
    have h : x b < x a := h
    show (if x a = x b then _ else decide (x a < x b)) = false
    rw [if_neg (by omega)]; exact decide_eq_false (by omega)
  | m + 1, a, b, d + 1, e + 1, h1, h2, h3, h4 => by
    have h0 : x a = x b := h3 0 (by omega)
    show (if x a = x b then pyLt (slc x (a + 1) d) (slc x (b + 1) e) else decide (x a < x b)) = false
    rw [if_pos h0]
    refine lt_diff m (a + 1) (b + 1) d e (by omega) (by omega) (fun m' hm' => ?_) ?_
    · have := h3 (m' + 1) (by omega)
      rw [show a + (m' + 1) = a + 1 + m' by omega, show b + (m' + 1) = b + 1 + m' by omega] at this
      exact this
    · rw [show a + 1 + m = a + (m + 1) by omega, show b + 1 + m = b + (m + 1) by omega]; exact h4
theorem lt_prefix {x : Nat → Int} : ∀ (e a b d : Nat), e ≤ d → (∀ m', m' < e → x (a + m') = x (b + m')) → pyLt (slc x a d) (slc x b e) = false
  | 0, a, b, 0, _, _ => rfl
  | 0, a, b, d + 1, _, _ => rfl
  | e + 1, a, b, d + 1, h1, h3 => by
    have h0 : x a = x b := h3 0 (by omega)
    show (if x a = x b then pyLt (slc x (a + 1) d) (slc x (b + 1) e) else decide (x a < x b)) = false
    rw [if_pos h0]
    refine lt_prefix e (a + 1) (b + 1) d (by omega) (fun m' hm' => ?_)
    have := h3 (m' + 1) (by omega)
    rw [show a + (m' + 1) = a + 1 + m' by omega, show b + (m' + 1) = b + 1 + m' by omega] at this
    exact this
theorem lyn_le {x : Nat → Int} {a d : Nat} (L : Lyn x a d) (k : Nat) (h1 : 1 ≤ k) (h2 : k < d) : pyLe ((slc x a d).drop k) (slc x a d) = false := by
  obtain ⟨m, h3, h4, h5⟩ := L k h1 h2
  rw [slc_drop]
  exact le_diff m (a + k) a (d - k) d (by omega) (by omega) (fun m' hm' => (h5 m' hm').symm) h4

/-- what lies behind p begins no greater than x[a .. a+d) -/
def Bnd (x : Nat → Int) (n a d p : Nat) : Prop := ∃ e, e < d ∧ (∀ m, m < e → x (p + m) = x (a + m)) ∧ (p + e = n ∨ (p + e < n ∧ x (p + e) < x (a + e)))
theorem Bnd.notLt {x : Nat → Int} {n a d p : Nat} (B : Bnd x n a d p) (k : Nat) (hk : p + k ≤ n) : pyLt (slc x a d) (slc x p k) = false := by
  obtain ⟨e, h1, h2, h3⟩ := B
  by_cases h : k ≤ e
  · exact lt_prefix k a p d (by omega) fun m hm => (h2 m (by omega)).symm
  · rcases h3 with h3 | ⟨h3, h4⟩
    · omega
    · exact lt_diff e a p d k h1 (by omega) (fun m hm => (h2 m hm).symm) h4
/-- the parts so far -/
structure PI (x : Nat → Int) (n : Nat) (ps : List (Nat × Nat)) : Prop where
  lyn : ∀ q ∈ ps, 1 ≤ q.2 ∧ q.1 + q.2 ≤ n ∧ Lyn x q.1 q.2
  chain : ∀ k q r, ps[k]? = some q → ps[k + 1]? = some r → pyLt (slc x q.1 q.2) (slc x r.1 r.2) = false
theorem PI.nil {x : Nat → Int} {n : Nat} : PI x n [] := ⟨fun _ h => (nomatch h), fun k q r h => by simp at h⟩
theorem PI.snoc {x : Nat → Int} {n : Nat} {ps : List (Nat × Nat)} (I : PI x n ps) {a d : Nat} (h1 : 1 ≤ d) (h2 : a + d ≤ n) (L : Lyn x a d) (hl : ∀ q, ps.getLast? = some q → pyLt (slc x q.1 q.2) (slc x a d) = false) : PI x n (ps ++ [(a, d)]) := by
  refine ⟨fun q hq => ?_, fun k q r hq hr => ?_⟩
  · rcases List.mem_append.mp hq with hq | hq
    · exact I.lyn q hq
    · rw [List.mem_singleton.mp hq]; exact ⟨h1, h2, L⟩
  · by_cases hk : k + 1 < ps.length
    · rw [List.getElem?_append_left (by omega)] at hq
      rw [List.getElem?_append_left hk] at hr
      exact I.chain k q r hq hr
    · by_cases hk2 : k + 1 = ps.length
      · rw [List.getElem?_append_left (by omega)] at hq
        rw [List.getElem?_append_right (by omega), hk2, Nat.sub_self] at hr
        cases hr
        refine hl q ?_
        rw [List.getLast?_eq_getElem?, show ps.length - 1 = k by omega]; exact hq
      · rw [List.getElem?_eq_none (by simp; omega)] at hr; cases hr
/-- the state of the first inner loop -/
structure In1 (x : Nat → Int) (n p j i : Nat) : Prop where
  pj : p ≤ j
  ji : j < i
  n : i ≤ n
  pd : p + (i - j) ≤ i
  lyn : Lyn x p (i - j)
  per : Per x p (i - j) i
theorem In1.start {x : Nat → Int} {n p : Nat} (h : p < n) : In1 x n p p (p + 1) := by
  refine ⟨Nat.le_refl _, by omega, by omega, by omega, ?_, ?_⟩
  · intro k h1 h2; omega
  · intro m h1 h2; omega
theorem In1.less {x : Nat → Int} {n p j i : Nat} (I : In1 x n p j i) (h : i < n) (g : x j < x i) : In1 x n p p (i + 1) := by
  have hj := I.ji
  have hp := I.pj
  have e : i - (i - j) = j := by omega
  refine ⟨Nat.le_refl _, by omega, by omega, by omega, ?_, ?_⟩
  · exact lyn_grow (d := i - j) (by omega) I.pd I.lyn I.per (by rw [e]; exact g)
  · intro m h1 h2; omega
theorem In1.same {x : Nat → Int} {n p j i : Nat} (I : In1 x n p j i) (h : i < n) (g : x j = x i) : In1 x n p (j + 1) (i + 1) := by
  have hj := I.ji
  have hp := I.pj
  have e : i + 1 - (j + 1) = i - j := by omega
  have hpd := I.pd
  refine ⟨by omega, by omega, by omega, by rw [e]; omega, by rw [e]; exact I.lyn, ?_⟩
  rw [e]
  intro m h1 h2
  by_cases hm : m + (i - j) < i
  · exact I.per m h1 hm
  · have : m = j := by omega
    subst this
    rw [show m + (i - m) = i by omega]; exact g.symm
/-- the state of the second inner loop; st: where the next part begins -/
structure In2 (x : Nat → Int) (n p j i st : Nat) (ps : List (Nat × Nat)) : Prop where
  one : In1 x n p j i
  stop : i = n ∨ (i < n ∧ x i < x j)
  le : st ≤ i
  at_ : ∃ c, st = p + c * (i - j)
  pi : PI x n ps
  last : ∀ q, ps.getLast? = some q → (st = p ∧ Bnd x n q.1 q.2 p) ∨ (q = (st - (i - j), i - j) ∧ p + (i - j) ≤ st)
  new : st = p ∨ ps ≠ []
theorem In2.turn {x : Nat → Int} {n p j i st : Nat} {ps : List (Nat × Nat)} (I : In2 x n p j i st ps) (h : st ≤ j) : In2 x n p j i (st + (i - j)) (ps ++ [(st, i - j)]) := by
  have O := I.one
  have hj := O.ji
  have hp := O.pj
  have hn := O.n
  obtain ⟨c, hc⟩ := I.at_
  have same : ∀ m, m < i - j → x (st + m) = x (p + m) := fun m hm => by
    rw [hc, show p + c * (i - j) + m = (p + m) + c * (i - j) by omega]
    exact O.per.mul c (p + m) (by omega) (by omega)
  refine ⟨O, I.stop, by omega, ⟨c + 1, by rw [Nat.succ_mul]; omega⟩, ?_, ?_, .inr (by simp)⟩
  · refine I.pi.snoc (by omega) (by omega) ?_ ?_
    · intro k h1 h2
      obtain ⟨m, g1, g2, g3⟩ := O.lyn k h1 h2
      refine ⟨m, g1, ?_, fun m' hm' => ?_⟩
      · rw [same m (by omega), show st + k + m = st + (k + m) by omega, same (k + m) g1, show p + (k + m) = p + k + m by omega]; exact g2
      · rw [same m' (by omega), show st + k + m' = st + (k + m') by omega, same (k + m') (by omega), show p + (k + m') = p + k + m' by omega]; exact g3 m' hm'
    · intro q hq
      rcases I.last q hq with ⟨e, B⟩ | ⟨e, h2⟩
      · subst e; exact B.notLt _ (by omega)
      · subst e
        refine lt_prefix (i - j) (st - (i - j)) st (i - j) (Nat.le_refl _) fun m hm => ?_
        have := O.per (st - (i - j) + m) (by omega) (by omega)
        rw [show st - (i - j) + m + (i - j) = st + m by omega] at this
        exact this.symm
  · intro q hq
    rw [List.getLast?_append, List.getLast?_singleton] at hq
    cases hq
    refine .inr ⟨?_, ?_⟩
    · rw [Nat.add_sub_cancel]
    · have : p ≤ st := by rw [hc]; exact Nat.le_add_right ..
      omega
theorem In2.fin {x : Nat → Int} {n p j i st : Nat} {ps : List (Nat × Nat)} (I : In2 x n p j i st ps) (h : j < st) : p < st ∧ st ≤ n ∧ PI x n ps ∧ ∀ q, ps.getLast? = some q → Bnd x n q.1 q.2 st := by
  have O := I.one
  have hj := O.ji
  have hp := O.pj
  have hn := O.n
  have hle := I.le
  refine ⟨by omega, by omega, I.pi, fun q hq => ?_⟩
  rcases I.last q hq with ⟨e, _⟩ | ⟨e, h2⟩
  · omega
  · subst e
    refine ⟨i - st, by simp only; omega, fun m hm => ?_, ?_⟩
    · have := O.per (st - (i - j) + m) (by omega) (by omega)
      rw [show st - (i - j) + m + (i - j) = st + m by omega] at this
      exact this
    · rcases I.stop with e | ⟨h3, h4⟩
      · exact .inl (by omega)
      · refine .inr ⟨by omega, ?_⟩
        rw [show st + (i - st) = i by omega, show st - (i - j) + (i - st) = j by omega]; exact h4
theorem In2.start {x : Nat → Int} {n p j i : Nat} {ps : List (Nat × Nat)} (O : In1 x n p j i) (s : i = n ∨ (i < n ∧ x i < x j)) (P : PI x n ps) (B : ∀ q, ps.getLast? = some q → Bnd x n q.1 q.2 p) : In2 x n p j i p ps :=
  ⟨O, s, by have := O.pj; have := O.ji; omega, ⟨0, by simp⟩, P, fun q hq => .inl ⟨rfl, B q hq⟩, .inl rfl⟩
end Mine

namespace Mine

/-- the program -/
abbrev pg : Program := PySem.Challenge.pw_dp0025_01
def stm (i : Nat) : Stmt := pg.main.body.getD i (.Pass ⟨0, 0, 0, 0⟩)
def fdOf (st : Stmt) (qual : Str) (cl : List (Str × Addr)) (pm cd ct : Value) : FuncData := match st with
  | .FunctionDef n a b _ _ _ sc _ _ _ => { name := n, qualname := qual, params := a, body := .stmts b, scope := sc, globals := 3, closure := cl, defaults := .none, kwdefaults := .none, pyModule := pm, code := cd, closureTuple := ct }
  | _ => { name := "", qualname := "", params := ⟨[], [], none, [], [], none, []⟩, body := .stmts [], scope := pg.main.scope, globals := 3, closure := [], defaults := .none, kwdefaults := .none }
def fnO (st : Stmt) (qual : Str) (cl : List (Str × Addr)) (pm cd ct : Value) : Obj := { cls := .type "function", data := .func (fdOf st qual cl pm cd ct) }
def pmF : Value := .str "cpy313.functools" 187
def pmL : Value := .str "law_dp0025_01" 207
def file : Str := "/claim/cut.py"
def dE (P : Params) (x : Str) (t : Tok) (v : Value) : DictEntry := { hash := PyData.keyHash P x, key := .str x t, val := v }
def mainO (P : Params) : Obj := { cls := .type "dict", data := .dict #[dE P "__name__" 165 pmL, dE P "__doc__" 166 .none, dE P "__package__" 167 .none, dE P "__loader__" 168 (.builtin "__main__.__loader__#opaque"), dE P "__spec__" 169 .none, dE P "__annotations__" 170 (.ref 6), dE P "__builtins__" 171 (.ref 4), dE P "__file__" 173 (.str file 172), dE P "__cached__" 174 .none, dE P "_lt_from_le" 197 (.ref 21), dE P "cmp_to_key" 206 (.ref 28), dE P "_law_heaps" 217 (.ref 35), dE P "law" 223 (.ref 40)] 13 }
def codeO (n : Str) (t : Tok) (line argc nl : Int) (r8 r11 : Addr) (r13 r14 : Value) (r15 : Addr) (t16 : Int) (t18 : Tok) : Obj :=
  { cls := .type "code", data := .fields #[.str n t, .str n (t + 1), .str file (t + 2), .int line 0, .int argc 0, .int 0 0, .int 0 0, .int nl 0, .ref r8, .bool true, .int 181 0, .ref r11, .none, r13, r14, .ref r15, .int t16 0, .int line 0, .str file t18] }
/-- what the top leaves and the call reads -/
noncomputable def fk (P : Params) : Frag := [(nat_lit 0, boot_o_0 P), (nat_lit 1, boot_o_1 P), (nat_lit 2, { cls := .none, data := .dict #[] }), (nat_lit 3, mainO P), (nat_lit 4, boot_o_4 P),
  (nat_lit 20, codeO "_lt_from_le" 189 2 2 3 15 16 (.ref 17) (.ref 18) 19 195 196), (nat_lit 21, fnO (stm 1) "_lt_from_le" [] pmF (.ref 20) .none),
  (nat_lit 27, codeO "cmp_to_key" 198 7 1 3 22 23 (.ref 24) (.ref 25) 26 204 205), (nat_lit 28, fnO (stm 2) "cmp_to_key" [] pmF (.ref 27) .none),
  (nat_lit 34, codeO "_law_heaps" 209 33 1 3 29 30 (.ref 31) (.ref 32) 33 215 216), (nat_lit 35, fnO (stm 4) "_law_heaps" [] pmL (.ref 34) .none),
  (nat_lit 39, codeO "law" 218 38 1 3 36 37 .none .none 38 221 222), (nat_lit 40, fnO (stm 5) "law" [] pmL (.ref 39) .none)]
/-- with the table of cmp_to_key's code -/
noncomputable def fk2 (P : Params) : Frag := [(nat_lit 23, tableObj #[]), (nat_lit 0, boot_o_0 P), (nat_lit 1, boot_o_1 P), (nat_lit 2, { cls := .none, data := .dict #[] }), (nat_lit 3, mainO P), (nat_lit 4, boot_o_4 P),
  (nat_lit 20, codeO "_lt_from_le" 189 2 2 3 15 16 (.ref 17) (.ref 18) 19 195 196), (nat_lit 21, fnO (stm 1) "_lt_from_le" [] pmF (.ref 20) .none),
  (nat_lit 27, codeO "cmp_to_key" 198 7 1 3 22 23 (.ref 24) (.ref 25) 26 204 205), (nat_lit 28, fnO (stm 2) "cmp_to_key" [] pmF (.ref 27) .none),
  (nat_lit 34, codeO "_law_heaps" 209 33 1 3 29 30 (.ref 31) (.ref 32) 33 215 216), (nat_lit 35, fnO (stm 4) "_law_heaps" [] pmL (.ref 34) .none),
  (nat_lit 39, codeO "law" 218 38 1 3 36 37 .none .none 38 221 222), (nat_lit 40, fnO (stm 5) "law" [] pmL (.ref 39) .none)]
end Mine

namespace Mine

/-- what a run has made: the objects, their count, the tokens drawn, the code tables grown -/
structure Dt where
  T : BT
  m : Nat
  i : Nat
  ch : Ch
inductive Out (α : Type) where
  | ok (a : α) (d : Dt)
  | err (e : Value) (d : Dt)
  | susp (c : Code) (k : Result → Sem α) (d : Dt)
  | no (why : Nat)
/-- a call of one of the text's own functions, at which a run waits -/
def waits (stops : List Addr) : Code → Bool
  | .call (.ref a) _ => stops.any (Nat.beq a)
  | _ => false

/-- a code run to its end by a runner of trees -/
def runC (den : Code → Sem PySem.Fin) (rs : Sem PySem.Fin → Dt → Out PySem.Fin) : Nat → Code → Dt → Out Result
  | 0, _, _ => .no 100
  | n + 1, c, d => match rs (den c) d with
    | .ok fin d' => match fin with
      | .done f => .ok (.ok f) d'
      | .again c' => match c'.quiet with
        | true => runC den rs n c' d'
        | false => .no 101
    | .err e d' => .ok (.error e) d'
    | .susp _ _ _ => .no 102
    | .no w => .no w

/-- a tree run to its end; it stops at a look at the stack -/
def runS (V : XV) (stops : List Addr) (den : Code → Sem PySem.Fin) : Nat → (α : Type) → Sem α → Dt → Out α
  | 0, _, _, _ => .no 0
  | n + 1, α, t, d => match t with
    | .pure a => .ok a d
    | .raise e => .err e d
    | .rule _ k => runS V stops den n α (k ()) d
    | .at _ k => runS V stops den n α (k ()) d
    | .point _ k => runS V stops den n α (k ()) d
    | .ask k => runS V stops den n α (k ⟨V.prog, V.w.params⟩) d
    | .load a _ k => match look V d.T d.ch a with
      | some o => runS V stops den n α (k o) d
      | none => .no (1000 + a)
    | .loadIfAlive a k => match look V d.T d.ch a with
      | some o => runS V stops den n α (k (some o)) d
      | none => .no (1000 + a)
    | .alloc o k => match o.isFreed with
      | true => .no 2
      | false => match (d.T.ins d.m o).get d.m with
        | some _ => runS V stops den n α (k (V.n₁ + d.m)) ⟨d.T.ins d.m o, d.m + 1, d.i, d.ch⟩
        | none => .no 3
    | .update a _ f k => match Nat.blt a V.n₁ with
      | false => match d.T.get (a - V.n₁) with
        | some o => match (f o).isFreed with
          | true => .no 4
          | false => runS V stops den n α (k ()) ⟨d.T.set (a - V.n₁) f, d.m, d.i, d.ch⟩
        | none => .no 5
      | true => match nowTab V d.ch a with
        | some vs => match tabOf (f (tableObj vs)) with
          | some vs' => match strip vs.toList vs'.toList with
            | some _ => runS V stops den n α (k ()) ⟨d.T, d.m, d.i, chPut d.ch a vs'⟩
            | none => .no 6
          | none => .no 7
        | none => .no (2000 + a)
    | .fresh k => runS V stops den n α (k (V.t₀ + d.i)) ⟨d.T, d.m, d.i + 1, d.ch⟩
    | .handled own k => match own with
      | false => runS V stops den n α (k none) d
      | true => .no 8
    | .call c hd _ _ k => match hd with
      | none => match waits stops c with
        | true => .susp c k d
        | false => match runC den (runS V stops den n PySem.Fin) n c d with
          | .ok r d' => runS V stops den n α (k r) d'
          | .err _ _ => .no 9
          | .susp _ _ _ => .no 12
          | .no w => .no w
      | some _ => .no 10
    | _ => .no 11

def St (V : XV) (g : Array GenState) (h : Heap) (d : Dt) : Shared := ⟨h, g, V.d, V.t₀ + d.i, V.os⟩
def Holds (V : XV) (d : Dt) (h : Heap) : Prop := Rep V h d.T d.m d.ch
/-- what an outcome promises -/
def Post {α : Type} (V : XV) (g : Array GenState) (A : Around) (Q : α → Shared → Prop) (E : Value → Shared → Prop) : Out α → Prop
  | .ok a d => ∀ h, Holds V d h → Q a (St V g h d)
  | .err e d => ∀ h, Holds V d h → E e (St V g h d)
  | .susp c k d => ∀ h, Holds V d h → codeAny (model V.prog V.w) (A.mark none) c (fun r s' => wpAny (model V.prog V.w) A (k r) Q E s') (St V g h d)
  | .no _ => False

theorem runC_sound {V : XV} {g : Array GenState} {rs : Sem PySem.Fin → Dt → Out PySem.Fin}
    (IH : ∀ (A : Around) (t : Sem PySem.Fin) (d : Dt) (h : Heap) (Q : PySem.Fin → Shared → Prop) (E : Value → Shared → Prop), A.handled = none → Post V g A Q E (rs t d) → Holds V d h → wpAny (model V.prog V.w) A t Q E (St V g h d)) :
    ∀ (n : Nat) (A : Around) (c : Code) (d : Dt) (h : Heap) (R : Result → Shared → Prop), A.handled = none → Post V g A R (fun _ _ => False) (runC (denote table) rs n c d) → Holds V d h → codeAny (model V.prog V.w) A c R (St V g h d)
  | 0, _, _, _, _, _, _, H, _ => H.elim
  | n + 1, A, c, d, h, R, hA, H, D => by
    refine x_code ?_
    have hA' : (A.under c).handled = none := hA
    unfold runC at H
    cases q : rs (denote table c) d with
    | no w => rw [q] at H; exact H.elim
    | susp c k d' => rw [q] at H; exact H.elim
    | err e d' =>
      rw [q] at H
      exact IH _ _ _ _ _ _ hA' (by rw [q]; exact fun h' D' => H h' D') D
    | ok fin d' =>
      rw [q] at H
      have P : Post V g (A.under c) (fun fin s' => match fin with | .done f => R (.ok f) s' | .again c' => c'.quiet = true ∧ codeAny (model V.prog V.w) A c' R s') (fun e s' => R (.error e) s') (rs (denote table c) d) := by
        rw [q]
        intro h' D'
        cases fin with
        | done f => exact H h' D'
        | again c' =>
          dsimp only at H ⊢
          cases qq : c'.quiet with
          | false => rw [qq] at H; exact H.elim
          | true =>
            rw [qq] at H
            exact ⟨rfl, runC_sound IH n A c' d' h' R hA H D'⟩
      exact IH _ _ _ _ _ _ hA' P D

theorem runS_sound {V : XV} (O : V.Ok) {stops : List Addr} {g : Array GenState} : ∀ (n : Nat) {α : Type} (A : Around) (t : Sem α) (d : Dt) (h : Heap) (Q : α → Shared → Prop) (E : Value → Shared → Prop), A.handled = none →
    Post V g A Q E (runS V stops (denote table) n α t d) → Holds V d h → wpAny (model V.prog V.w) A t Q E (St V g h d)
  | 0, _, _, _, _, _, _, _, _, H, _ => H.elim
  | n + 1, α, A, t, d, h, Q, E, hA, H, D => by
    have IH := @runS_sound V O stops g n
    cases t with
    | pure a => exact x_pure (H h D)
    | raise e => exact x_raise (H h D)
    | rule _ k => exact x_rule (IH A _ _ _ _ _ hA H D)
    | «at» _ k => exact x_at (IH A _ _ _ _ _ hA H D)
    | point _ k => exact x_point (IH A _ _ _ _ _ hA H D)
    | ask k => exact x_ask (IH A _ _ _ _ _ hA H D)
    | load a q k =>
      simp only [runS] at H
      split at H
      · rename_i o e
        exact x_load (D.look O e) (IH A _ _ _ _ _ hA H D)
      · exact H.elim
    | loadIfAlive a k =>
      simp only [runS] at H
      split at H
      · rename_i o e
        intro Γ p hΓ
        have z := IH A (k (some o)) _ _ _ _ hA H D Γ p hΓ
        have e' := D.look O e
        show Sem.wp _ _ (k (h.get? a)) _ _ _ _
        rw [e']; exact z
      · exact H.elim
    | alloc o k =>
      simp only [runS] at H
      split at H
      · exact H.elim
      · rename_i hf
        split at H
        · rename_i o' e
          have D' := Rep.alloc O D hf (by rw [e]; rfl)
          have ea : h.objs.size = V.n₁ + d.m := D.size
          have z := IH A _ _ (h.push o) _ _ hA H D'
          refine wpAny_bind (m := PySem.alloc o) (f := k) (wpAny_alloc ?_)
          show wpAny _ A (k h.objs.size) Q E _
          rw [ea]; exact z
        · exact H.elim
    | update a q f k =>
      simp only [runS] at H
      split at H
      · rename_i hb
        split at H
        · rename_i o e
          split at H
          · exact H.elim
          · rename_i hf
            have D' := Rep.update O D (blt_false hb) e hf
            have ho := (D.own _ _ e).2
            rw [Nat.add_sub_cancel' (blt_false hb)] at ho
            exact wpAny_bind (m := updatePart a q f) (f := k) (wpAny_updatePart ho (IH A _ ⟨d.T.set (a - V.n₁) f, d.m, d.i, d.ch⟩ _ _ _ hA H D'))
        · exact H.elim
      · split at H
        · rename_i vs e
          split at H
          · rename_i vs' e'
            split at H
            · rename_i more em
              obtain ⟨ho, D'⟩ := Rep.table O D e (tabOf_eq e') em
              exact wpAny_bind (m := updatePart a q f) (f := k) (wpAny_updatePart ho (IH A _ ⟨d.T, d.m, d.i, chPut d.ch a vs'⟩ _ _ _ hA H D'))
            · exact H.elim
          · exact H.elim
        · exact H.elim
    | fresh k => exact x_fresh (IH A _ ⟨d.T, d.m, d.i + 1, d.ch⟩ _ _ _ hA H D)
    | handled own k =>
      cases own with
      | true => exact H.elim
      | false => exact x_handled (by rw [hA]; exact IH A _ _ _ _ _ hA H D)
    | call c hd gd l k =>
      cases hd with
      | some v => exact H.elim
      | none =>
        simp only [runS] at H
        have hm : (A.mark none).handled = none := hA
        split at H
        · exact x_call (H h D) (by intro e; cases e)
        split at H
        · rename_i r d' e
          refine x_call (runC_sound (fun A t d h Q E hA H D => IH A t d h Q E hA H D) n _ c d h _ hm ?_ D) (by intro e; cases e)
          rw [e]
          exact fun h' D' => IH A _ _ _ _ _ hA H D'
        · exact H.elim
        · exact H.elim
        · exact H.elim
    | _ => exact H.elim
end Mine

namespace Mine
/-- the codes' trees, by the library's quick twin -/
noncomputable def zden : Code → Sem PySem.Fin := PySem.W.ZFast.zw11892475500146522536 PySem.W.ZFast.tableZ
theorem zden_eq : denote table = zden := by
  unfold zden
  rw [PySem.W.ZFast.tableZ_eq, PySem.W.ZFast.ze11892475500146522536]
def Out.good {α : Type} : Out α → Bool
  | .ok _ _ => true
  | _ => false
def Out.dt {α : Type} : Out α → Dt
  | .ok _ d => d
  | .err _ d => d
  | .susp _ _ d => d
  | .no _ => ⟨.nil, 0, 0, []⟩
def Out.val {α : Type} (x : α) : Out α → α
  | .ok a _ => a
  | _ => x
def Out.why {α : Type} : Out α → Nat
  | .ok _ _ => 0
  | .err _ _ => 1
  | .susp _ _ _ => 2
  | .no w => w
def Out.isSusp {α : Type} : Out α → Bool
  | .susp _ _ _ => true
  | _ => false
def Out.code {α : Type} (c : Code) : Out α → Code
  | .susp c _ _ => c
  | _ => c
def Out.kont {α : Type} : Out α → Result → Sem α
  | .susp _ k _ => k
  | _ => fun _ => .unsupported "no wait"
theorem go {V : XV} (O : V.Ok) {g : Array GenState} {A : Around} {α : Type} {t : Sem α} {d : Dt} {h : Heap} {Q : α → Shared → Prop} {E : Value → Shared → Prop} (n : Nat) (a : α) (D : Holds V d h) (hA : A.handled = none)
    (e : (runS V [] zden n α t d).good = true) (ea : (runS V [] zden n α t d).val a = a) (H : ∀ h', Holds V (runS V [] zden n α t d).dt h' → Q a (St V g h' (runS V [] zden n α t d).dt)) :
    wpAny (model V.prog V.w) A t Q E (St V g h d) := by
  refine runS_sound (stops := []) O n A t d h Q E hA ?_ D
  rw [zden_eq]
  cases q : runS V [] zden n α t d with
  | ok b d' =>
    rw [q] at ea H
    intro h' D'
    have : b = a := ea
    subst this
    exact H h' D'
  | err _ _ => rw [q] at e; cases e
  | susp _ _ _ => rw [q] at e; cases e
  | no _ => rw [q] at e; cases e
theorem goS {V : XV} (O : V.Ok) {g : Array GenState} {A : Around} {α : Type} {t : Sem α} {d : Dt} {h : Heap} {Q : α → Shared → Prop} {E : Value → Shared → Prop} (n : Nat) (stops : List Addr) (c : Code) (D : Holds V d h) (hA : A.handled = none)
    (e : (runS V stops zden n α t d).isSusp = true) (ec : (runS V stops zden n α t d).code c = c)
    (H : ∀ h', Holds V (runS V stops zden n α t d).dt h' → codeAny (model V.prog V.w) (A.mark none) c (fun r s' => wpAny (model V.prog V.w) A ((runS V stops zden n α t d).kont r) Q E s') (St V g h' (runS V stops zden n α t d).dt)) :
    wpAny (model V.prog V.w) A t Q E (St V g h d) := by
  refine runS_sound (stops := stops) O n A t d h Q E hA ?_ D
  rw [zden_eq]
  cases q : runS V stops zden n α t d with
  | susp b k d' =>
    rw [q] at ec H
    intro h' D'
    have : b = c := ec
    subst this
    exact H h' D'
  | ok _ _ => rw [q] at e; cases e
  | err _ _ => rw [q] at e; cases e
  | no _ => rw [q] at e; cases e

noncomputable def VV (w : World) (s : Shared) (vs : List Value) : XV where
  prog := PySem.Challenge.rw_dp0025_01.prog
  w := w
  h₀ := s.heap
  n₁ := 42
  kt := KT.of ((nat_lit 41, ⟨.type "list", none, .seq vs.toArray 0, #[]⟩) :: (nat_lit 23, tableObj #[]) :: (nat_lit 37, tableObj #[]) :: fk w.params)
  tabs := [(23, #[]), (37, #[])]
  A₀ := callerA
  R₀ := fun _ _ => True
  d := s.drawn
  t₀ := s.toks
  os := s.os
def d0 : Dt := ⟨.nil, 0, 0, []⟩
def bodyOf (fd : FuncData) : List Stmt := match fd.body with
  | .stmts b => b
  | _ => []
def nth (b : List Stmt) (i : Nat) : Stmt := b.getD i (.Pass ⟨0, 0, 0, 0⟩)
def lawFd : FuncData := fdOf (stm 5) "law" [] pmL (.ref 39) .none
def lawB : List Stmt := bodyOf lawFd
def lawBinds : List (Str × Value) := [("script", .ref 41)]
def lawEnv : Env := { scope := lawFd.scope, locals := 42, globals := 3, cells := [("part", 45), ("parts", 44), ("make", 43)], qual := ("law" : Str) ++ ".<locals>.", func := some 40, code := .ref 39, frame := some 42, builtins := 0 }
noncomputable def rA (V : XV) : Out (List (Str × Value)) := runS V [] zden 60 _ (bindArgs lawFd ⟨[.ref 41], []⟩) d0
noncomputable def rB (V : XV) : Out Env := runS V [] zden 60 _ (newFunctionEnv lawFd.scope lawFd.globals lawFd.closure lawBinds (lawFd.qualname ++ ".<locals>.") (some 40) lawFd.code none lawFd.builtins) (rA V).dt
noncomputable def rC (V : XV) : Out Flow := runS V [28] zden 200 _ (exec (nth lawB 0) lawEnv) (rB V).dt
def cmpFd : FuncData := fdOf (stm 2) "cmp_to_key" [] pmF (.ref 27) .none
def cmpB : List Stmt := bodyOf cmpFd
def cmpBinds : List (Str × Value) := [("mycmp", .ref 52)]
def cmpEnv : Env := { scope := cmpFd.scope, locals := 53, globals := 3, cells := [("mycmp", 54)], qual := ("cmp_to_key" : Str) ++ ".<locals>.", func := some 28, code := .ref 27, frame := some 53, builtins := 0 }
noncomputable def rD (V : XV) : Out (List (Str × Value)) := runS V [] zden 60 _ (bindArgs cmpFd ⟨[.ref 52], []⟩) (rC V).dt
noncomputable def rE (V : XV) : Out Env := runS V [] zden 60 _ (newFunctionEnv cmpFd.scope cmpFd.globals cmpFd.closure cmpBinds (cmpFd.qualname ++ ".<locals>.") (some 28) cmpFd.code none cmpFd.builtins) (rD V).dt
section
variable (w : World) (s : Shared) (vs : List Value)
example : (rA (VV w s vs)).good = true := by kernel_rfl
example : (rA (VV w s vs)).val lawBinds = lawBinds := by kernel_rfl
example : (rB (VV w s vs)).good = true := by kernel_rfl
example : (rB (VV w s vs)).val lawEnv = lawEnv := by kernel_rfl

end
end Mine

namespace Mine
def clsS : Stmt := nth cmpB 0
structure ClsD where
  name : Str
  bases : List Expr
  body : List Stmt
  scope : Scope
  x1 : Option Scope
  bind : Str
  statics : List Str
  pos : Pos
def clsOf : Stmt → ClsD
  | .ClassDef name bases _ body _ _ scope x1 bind statics pos => ⟨name, bases, body, scope, x1, bind, statics, pos⟩
  | _ => ⟨"", [], [], pg.main.scope, none, "", [], ⟨0, 0, 0, 0⟩⟩
def cd : ClsD := clsOf clsS
theorem clsS_eq : clsS = .ClassDef cd.name cd.bases [] cd.body [] [] cd.scope cd.x1 cd.bind cd.statics cd.pos := by kernel_rfl

end Mine

namespace Mine
/-- a code object that the call makes; t: the tokens drawn before the call -/
def codeN (n q : Str) (k : Nat) (line : Int) (r8 r11 r13 r14 r15 : Addr) (k16 : Nat) : Obj :=
  { cls := .type "code", data := .fields #[.str n k, .str q (k + 1), .str file (k + 2), .int line 0, .int 2 0, .int 0 0, .int 0 0, .int 19 0, .ref r8, .bool true, .int 181 0, .ref r11, .none, .ref r13, .ref r14, .ref r15, .int (k16 : Int) 0, .int line 0, .str file (k16 + 1)] }
def lamE : Expr := match nth lawB 0 with
  | .Assign _ (.Call _ [e] _ _) _ => e
  | _ => .Constant .none 0 ⟨0, 0, 0, 0⟩
def lamFd : FuncData := match lamE with
  | .Lambda a b sc _ => { name := "<lambda>", qualname := "law.<locals>.<lambda>", params := a, body := .expr b, scope := sc, globals := 3, closure := [], defaults := .none, kwdefaults := .none, pyModule := pmL, code := .ref 51 }
  | _ => lawFd
def lamO : Obj := { cls := .type "function", data := .func lamFd }
def cellO (v : Option Value) : Obj := { cls := .type "cell", data := .cell v }
def kq (n : Str) : Str := ("cmp_to_key.<locals>.K." : Str) ++ n
def methO (i : Nat) (n : Str) (cl : List (Str × Addr)) (c : Addr) (ct : Value) : Obj := fnO (nth cd.body i) (kq n) cl pmL (.ref c) ct
def mcl : List (Str × Addr) := [("mycmp", 54)]
def nE (h : Int) (x : Str) (t : Tok) (v : Value) : DictEntry := { hash := h, key := .str x t, val := v }
/-- the class's names; hs: their hashes, of which nothing is asked -/
def nsO (hs : Nat → Int) (t : Nat) : Obj := { cls := .type "dict", data := .dict #[nE (hs 0) "__module__" (t + 16) (.str "cpy313.functools" (t + 21)), nE (hs 1) "__firstlineno__" (t + 20) (.int 9 (t + 19)), nE (hs 2) "__slots__" (t + 24) (.ref 62), nE (hs 3) "__init__" (t + 32) (.ref 69), nE (hs 4) "__lt__" (t + 41) (.ref 77), nE (hs 5) "__gt__" (t + 50) (.ref 85), nE (hs 6) "__eq__" (t + 59) (.ref 93), nE (hs 7) "__le__" (t + 68) (.ref 101), nE (hs 8) "__ge__" (t + 77) (.ref 109), nE (hs 9) "__hash__" (t + 78) .none, nE (hs 10) "__static_attributes__" (t + 80) (.ref 110), nE (hs 11) "obj" (t + 82) (.ref 114), nE (hs 12) "__doc__" (t + 83) .none] 3 }
def hashAt (o : Option Obj) (i : Nat) : Int := match o with
  | some ⟨_, _, .dict es _, _⟩ => match es[i]? with
    | some e => e.hash
    | none => 0
  | _ => 0
def clsO (t : Nat) : Obj := { cls := .type "type", data := .cls { name := "K", bases := [.type "object"], mro := [.ref 113, .type "object"], ns := 112, qualname := "cmp_to_key.<locals>.K", hasDict := false, slotNames := ["obj"] }, slots := #[some (.ref 55), none, some (.str "K" (t + 8)), some (.str "cmp_to_key.<locals>.K" (t + 17)), some (.builtin "object.__new__"), some (.bool false)] }
def descO (t : Nat) : Obj := { cls := .type "member_descriptor", data := .fields #[.str "obj" (t + 81), .ref 113, .builtin "proto.slot", .builtin "proto.slot#set", .int 0 0] }
/-- the class and what it reaches -/
def fcl (hs : Nat → Int) (t : Nat) : List (Addr × Obj) := [
  (nat_lit 51, codeN "<lambda>" "law.<locals>.<lambda>" (t + 1) 39 46 47 48 49 50 (t + 6)), (nat_lit 52, lamO), (nat_lit 54, cellO (some (.ref 52))),
  (nat_lit 68, codeN "__init__" (kq "__init__") (t + 25) 13 63 64 65 66 67 (t + 30)), (nat_lit 69, methO 2 "__init__" [] 68 .none),
  (nat_lit 92, codeN "__eq__" (kq "__eq__") (t + 51) 22 87 88 89 90 91 (t + 57)), (nat_lit 93, methO 5 "__eq__" mcl 92 (.ref 86)),
  (nat_lit 100, codeN "__le__" (kq "__le__") (t + 60) 25 95 96 97 98 99 (t + 66)), (nat_lit 101, methO 6 "__le__" mcl 100 (.ref 94)),
  (nat_lit 112, nsO hs t), (nat_lit 113, clsO t), (nat_lit 114, descO t)]
/-- law's own frame and cells behind the first statement -/
def ffr (P : Params) (t : Nat) : List (Addr × Obj) := [
  (nat_lit 42, { cls := .type "frame", data := .dict #[dE P "script" t (.ref 41)] 1 }), (nat_lit 43, cellO (some (.ref 113))), (nat_lit 44, cellO none), (nat_lit 45, cellO none)]
abbrev seen (V : XV) (d : Dt) (l : List (Addr × Obj)) : Prop := l.map (fun p => look V d.T d.ch p.1) = l.map (fun p => some p.2)
end Mine

namespace Mine
theorem noLimit_of {h : Heap} (e : h.get? 2 = some { cls := .none, data := .dict #[] }) : h.NoLimit :=
  ⟨fun _ => none, ⟨_, #[], 0, e, rfl, by intro e he; simp at he, fun _ => rfl⟩, rfl⟩
theorem Holds.at {V : XV} (O : V.Ok) {d : Dt} {h : Heap} (D : Holds V d h) {a : Addr} {o : Obj} (e : look V d.T d.ch a = some o) : h.get? a = some o := Rep.look O D e
theorem seen_get {V : XV} (O : V.Ok) {d : Dt} {h : Heap} (D : Holds V d h) : ∀ {l : List (Addr × Obj)}, seen V d l → ∀ p ∈ l, h.get? p.1 = some p.2
  | [], _, _, hp => nomatch hp
  | q :: l, e, p, hp => by
    unfold seen at e
    rw [List.map_cons, List.map_cons] at e
    injection e with e1 e2
    rcases List.mem_cons.mp hp with rfl | hp
    · exact Holds.at O D e1
    · exact seen_get O D e2 p hp
theorem codeRec_at {V : XV} (O : V.Ok) {d : Dt} {h : Heap} (D : Holds V d h) {c : Addr} {o : Obj} {vs : Array Value} {q : Str} {t : Tok} (e : look V d.T d.ch c = some o) (e1 : o.data = .fields vs) (e2 : vs[1]? = some (.str q t)) : h.CodeRec (.ref c) q :=
  ⟨c, o, vs, t, rfl, Holds.at O D e, e1, e2⟩

set_option maxHeartbeats 4000000 in
theorem prefix_walk {w : World} {s : Shared} {vs : List Value} (O : (VV w s vs).Ok) {A : Around} {h : Heap} {R : Result → Shared → Prop} (hA : A.handled = none) (hd : A.depth + 2 < recursionLimit)
    (H : ∀ d' h', Holds (VV w s vs) d' h' → d'.m = 75 → seen (VV w s vs) d' (fcl (hashAt (look (VV w s vs) d'.T d'.ch 112)) s.toks) → seen (VV w s vs) d' (ffr w.params s.toks) → seen (VV w s vs) d' (fk w.params) →
      wpAny (model (VV w s vs).prog (VV w s vs).w) (A.deeper lawEnv) (execs (lawB.drop 1) lawEnv) (fun f s' => R (.ok (.ret (match f with | .ret v => v | _ => .none))) s') (fun _ _ => False) (St (VV w s vs) s.gens h' d')) :
    codeAny (model (VV w s vs).prog (VV w s vs).w) A (.call (.ref 40) ⟨[.ref 41], []⟩) R (St (VV w s vs) s.gens s.heap d0) := by
  have D0 : Holds (VV w s vs) d0 s.heap := Rep.start O
  have hd0 : A.depth < recursionLimit := by omega
  refine codeAny_call_function (fd := lawFd) (body := lawB) hd0 (Holds.at O D0 (a := 40) (o := fnO (stm 5) "law" [] pmL (.ref 39) .none) (by kernel_rfl)) rfl (by kernel_rfl) (by kernel_rfl) (by kernel_rfl)
    (codeRec_at O D0 (c := 39) (o := codeO "law" 218 38 1 3 36 37 .none .none 38 221 222) (by kernel_rfl) rfl rfl) ?_
  refine go O 60 lawBinds D0 hA (by kernel_rfl) (by kernel_rfl) fun h1 D1 => ?_
  refine go O 60 lawEnv D1 hA (by kernel_rfl) (by kernel_rfl) fun h2 D2 => ⟨noLimit_of (Holds.at O D2 (by kernel_rfl)), ?_⟩
  refine codeAny_func ?_
  have hA1 : (A.deeper lawEnv).handled = none := hA
  have hd1 : (A.deeper lawEnv).depth < recursionLimit := by show A.depth + 1 < _; omega
  rw [show lawB = nth lawB 0 :: lawB.drop 1 by kernel_rfl]
  refine wpAny_execs_cons ?_
  refine goS O 200 [28] (.call (.ref 28) ⟨[.ref 52], []⟩) D2 hA1 (by kernel_rfl) (by kernel_rfl) fun h3 D3 => ?_
  refine codeAny_call_function (fd := cmpFd) (body := cmpB) hd1 (Holds.at O D3 (a := 28) (o := fnO (stm 2) "cmp_to_key" [] pmF (.ref 27) .none) (by kernel_rfl)) rfl (by kernel_rfl) (by kernel_rfl) (by kernel_rfl)
    (codeRec_at O D3 (c := 27) (o := codeO "cmp_to_key" 198 7 1 3 22 23 (.ref 24) (.ref 25) 26 204 205) (by kernel_rfl) rfl rfl) ?_
  refine go O 60 cmpBinds D3 hA1 (by kernel_rfl) (by kernel_rfl) fun h4 D4 => ?_
  refine go O 60 cmpEnv D4 hA1 (by kernel_rfl) (by kernel_rfl) fun h5 D5 => ⟨noLimit_of (Holds.at O D5 (by kernel_rfl)), ?_⟩
  refine codeAny_func ?_
  have hA2 : ((A.deeper lawEnv).deeper cmpEnv).handled = none := hA
  have hd2 : ((A.deeper lawEnv).deeper cmpEnv).depth < recursionLimit := by show A.depth + 1 + 1 < _; omega
  rw [show cmpB = clsS :: [nth cmpB 1] by kernel_rfl]
  refine wpAny_execs_cons ?_
  rw [clsS_eq, arm_exec_ClassDef]
  refine wpAny_bind (go O 60 [] D5 hA2 (by kernel_rfl) (by kernel_rfl) fun k1 C1 => ?_)
  refine wpAny_bind (go O 60 () C1 hA2 (by kernel_rfl) (by kernel_rfl) fun k2 C2 => ?_)
  refine wpAny_bind (go O 60 () C2 hA2 (by kernel_rfl) (by kernel_rfl) fun k3 C3 => ?_)
  refine wpAny_bind (wpAny_holding ?_)
  refine wpAny_bind (go O 60 ⟨[.type "object"], []⟩ C3 hA2 (by kernel_rfl) (by kernel_rfl) fun k4 C4 => ?_)
  refine wpAny_bind (go O 60 () C4 hA2 (by kernel_rfl) (by kernel_rfl) fun k5 C5 => ?_)
  refine wpAny_holding ?_
  unfold buildClass
  refine wpAny_bind (go O 60 (.ref 55) C5 hA2 (by kernel_rfl) (by kernel_rfl) fun k6 C6 => ?_)
  refine wpAny_bind (go O 60 ([.type "object"], false) C6 hA2 (by kernel_rfl) (by kernel_rfl) fun k7 C7 => ?_)
  refine wpAny_bind (go O 60 (.type "type") C7 hA2 (by kernel_rfl) (by kernel_rfl) fun k8 C8 => ?_)
  refine wpAny_bind (go O 60 true C8 hA2 (by kernel_rfl) (by kernel_rfl) fun k9 C9 => ?_)
  refine wpAny_ite_true rfl ?_
  refine wpAny_bind (go O 60 (.type "type") C9 hA2 (by kernel_rfl) (by kernel_rfl) fun k10 C10 => ?_)
  refine wpAny_bind (go O 60 (.str cd.name ((VV w s vs).t₀ + 8)) C10 hA2 (by kernel_rfl) (by kernel_rfl) fun k11 C11 => ?_)
  refine wpAny_ite_false (by simp) ?_
  refine wpAny_bind (wpAny_pure ?_)
  refine wpAny_holding ?_
  refine wpAny_bind (go O 60 (some (.ref 56)) C11 hA2 (by kernel_rfl) (by kernel_rfl) fun k12 C12 => ?_)
  refine wpAny_bind (go O 60 (.ref 57) C12 hA2 (by kernel_rfl) (by kernel_rfl) fun k13 C13 => ?_)
  refine wpAny_bind (go O 60 () C13 hA2 (by kernel_rfl) (by kernel_rfl) fun k14 C14 => ?_)
  refine wpAny_bind (go O 60 (some (.builtin "dict.__getitem__")) C14 hA2 (by kernel_rfl) (by kernel_rfl) fun k15 C15 => ?_)
  refine wpAny_ite_false (by simp) ?_
  refine wpAny_holding ?_
  refine wpAny_ite_false (by decide +kernel) ?_
  refine wpAny_bind (wpAny_pure ?_)
  refine wpAny_ite_false (by decide +kernel) ?_
  refine wpAny_bind (wpAny_pure ?_)
  refine wpAny_bind (go O 60 (.ref 60) C15 hA2 (by kernel_rfl) (by kernel_rfl) fun k16 C16 => ?_)
  refine wpAny_bind (go O 60 0 C16 hA2 (by kernel_rfl) (by kernel_rfl) fun k17 C17 => ?_)
  refine wpAny_bind (go O 60 61 C17 hA2 (by kernel_rfl) (by kernel_rfl) fun k18 C18 => ?_)
  refine wpAny_bind (go O 60 [("mycmp", 54)] C18 hA2 (by kernel_rfl) (by kernel_rfl) fun k19 C19 => ?_)
  refine wpAny_holding ?_
  refine wpAny_bind (wpAny_enterFrame ?_ hd2 ?_)
  · exact noLimit_of (Holds.at O C19 (by kernel_rfl))
  refine wpAny_bind (go O 90 () C19 hA2 (by kernel_rfl) (by kernel_rfl) fun k20 C20 => ?_)
  refine wpAny_bind (go O 400 .next C20 hA2 (by kernel_rfl) (by kernel_rfl) fun k21 C21 => ?_)
  refine wpAny_bind (go O 90 () C21 hA2 (by kernel_rfl) (by kernel_rfl) fun k22 C22 => ?_)
  refine wpAny_ite_false (by simp) ?_
  refine wpAny_bind (go O 400 (.ref 113) C22 hA2 (by kernel_rfl) (by kernel_rfl) fun k23 C23 => ?_)
  refine wpAny_pure ?_
  refine wpAny_bind (go O 400 (.ref 113) C23 hA2 (by kernel_rfl) (by kernel_rfl) fun k24 C24 => ?_)
  refine wpAny_bind (go O 400 () C24 hA2 (by kernel_rfl) (by kernel_rfl) fun k25 C25 => ?_)
  refine wpAny_bind (go O 400 () C25 hA2 (by kernel_rfl) (by kernel_rfl) fun k26 C26 => ?_)
  refine wpAny_pure ?_
  refine go O 100 (.ret (.ref 113)) C26 hA2 (by kernel_rfl) (by kernel_rfl) fun h6 D6 => ?_
  refine go O 100 .next D6 hA1 (by kernel_rfl) (by kernel_rfl) fun h7 D7 => ?_
  refine wpAny_mono (H _ h7 D7 (by kernel_rfl) (by unfold seen; kernel_rfl) (by unfold seen; kernel_rfl) (by unfold seen; kernel_rfl)) (fun _ _ x => x) (fun _ _ x => x.elim)
end Mine

namespace Mine
/-- room enough -/
def AA : Around := { depth := 400, units := 400 }
def clsAll (hs : Nat → Int) (t : Nat) (h : Heap) : Prop := ∀ p ∈ fcl hs t, h.get? p.1 = some p.2
/-- a key: an object of the class, its one slot -/
def keyO (i : Int) (ti : Tok) (da : Addr) : Obj := ⟨.ref 113, some da, .plain, #[some (.int i ti)]⟩
theorem mem_keep {h₀ h : Heap} {news : List (Addr × Obj)} (D : Mem h₀ h [] news) : ∀ b o, h₀.get? b = some o → h.get? b = some o := fun b o e => D.keep b o e (by simp [away])
theorem mem_new {h₀ h : Heap} {chg news : List (Addr × Obj)} (D : Mem h₀ h chg news) (i : Nat) (a : Addr) (o : Obj) (hi : news[i]? = some (a, o)) : h₀.get? a = none := (D.nw _ (List.mem_of_getElem? hi)).2
theorem inst_at {h₀ h : Heap} {chg news : List (Addr × Obj)} {a da : Addr} {o o₂ : Obj} {x : Int} {tx : Tok} (D : Mem h₀ h chg news) (i k : Nat) (hi : news[i]? = some (a, o)) (_hk : news[k]? = some (da, o₂)) (e : o = keyO x tx da) : h.get? a = some (keyO x tx da) := e ▸ D.at i a o hi
section
set_option hygiene false
local macro_rules | `(tactic| x_close) => `(tactic| (refine hQ _ _ _ _ (mem_keep D) (mem_new D 1 _ _ rfl) (inst_at D 1 2 rfl rfl ?_); kernel_rfl))
set_option maxHeartbeats 8000000 in
theorem leaf_make (w : World) (s : Shared) (X : (fk w.params).In s.heap) (hs : Nat → Int) (t : Nat) (C : clsAll hs t s.heap) (i : Int) (ti : Tok) (Q E : Value → Shared → Prop)
    (hQ : ∀ (a da : Addr) (h' : Heap) (t' : Nat), (∀ b o, s.heap.get? b = some o → h'.get? b = some o) → s.heap.get? a = none → h'.get? a = some (keyO i ti da) → Q (.ref a) ⟨h', s.gens, s.drawn, t', s.os⟩) :
    wpAny (model PySem.Challenge.rw_dp0025_01.prog w) AA (call (.ref 113) [.int i ti]) Q E s := by
  have h68 : s.heap.get? (nat_lit 68) = some (codeN "__init__" (kq "__init__") (t + 25) 13 63 64 65 66 67 (t + 30)) := C _ (List.mem_of_getElem? (i := 3) rfl)
  have h69 : s.heap.get? (nat_lit 69) = some (methO 2 "__init__" [] 68 .none) := C _ (List.mem_of_getElem? (i := 4) rfl)
  have h112 : s.heap.get? (nat_lit 112) = some (nsO hs t) := C _ (List.mem_of_getElem? (i := 9) rfl)
  have h113 : s.heap.get? (nat_lit 113) = some (clsO t) := C _ (List.mem_of_getElem? (i := 10) rfl)
  have h114 : s.heap.get? (nat_lit 114) = some (descO t) := C _ (List.mem_of_getElem? (i := 11) rfl)
  delta codeN at h68
  delta methO fnO at h69
  delta nsO at h112
  delta clsO at h113
  delta descO at h114
  revert X
  k_fill
  intro X
  x_run
end
theorem lt_t {i j : Int} (p : i - j ≤ 0) (n : ¬ i - j = 0) : true = true ↔ i < j := ⟨fun _ => by omega, fun _ => rfl⟩
theorem lt_f1 {i j : Int} (p : i - j = 0) : false = true ↔ i < j := ⟨fun e => (nomatch e), fun q => absurd q (by omega)⟩
theorem lt_f2 {i j : Int} (p : ¬ i - j ≤ 0) : false = true ↔ i < j := ⟨fun e => (nomatch e), fun q => absurd q (by omega)⟩
section
set_option hygiene false
local macro_rules | `(tactic| x_close) => `(tactic| (refine hQ _ _ _ ?_ (mem_keep D); first | exact lt_t (by assumption) (by assumption) | exact lt_f1 (by assumption) | exact lt_f2 (by assumption)))
set_option maxHeartbeats 8000000 in
theorem leaf_lt (w : World) (s : Shared) (X : (fk w.params).In s.heap) (hs : Nat → Int) (t : Nat) (C : clsAll hs t s.heap) (a b da db : Addr) (i j : Int) (ti tj : Tok) (ha : s.heap.get? a = some ⟨.ref 113, some da, .plain, #[some (.int i ti)]⟩) (hb : s.heap.get? b = some ⟨.ref 113, some db, .plain, #[some (.int j tj)]⟩) (Q E : Value → Shared → Prop)
    (hQ : ∀ (r : Bool) (h' : Heap) (t' : Nat), (r = true ↔ Int.fmod i 3 < Int.fmod j 3) → (∀ b o, s.heap.get? b = some o → h'.get? b = some o) → Q (.bool r) ⟨h', s.gens, s.drawn, t', s.os⟩) :
    wpAny (model PySem.Challenge.rw_dp0025_01.prog w) AA (call (.ref 21) [.ref a, .ref b]) Q E s := by
  have h51 : s.heap.get? (nat_lit 51) = some (codeN "<lambda>" "law.<locals>.<lambda>" (t + 1) 39 46 47 48 49 50 (t + 6)) := C _ (List.mem_of_getElem? (i := 0) rfl)
  have h52 : s.heap.get? (nat_lit 52) = some lamO := C _ (List.mem_of_getElem? (i := 1) rfl)
  have h54 : s.heap.get? (nat_lit 54) = some (cellO (some (.ref 52))) := C _ (List.mem_of_getElem? (i := 2) rfl)
  have h92 : s.heap.get? (nat_lit 92) = some (codeN "__eq__" (kq "__eq__") (t + 51) 22 87 88 89 90 91 (t + 57)) := C _ (List.mem_of_getElem? (i := 5) rfl)
  have h93 : s.heap.get? (nat_lit 93) = some (methO 5 "__eq__" mcl 92 (.ref 86)) := C _ (List.mem_of_getElem? (i := 6) rfl)
  have h100 : s.heap.get? (nat_lit 100) = some (codeN "__le__" (kq "__le__") (t + 60) 25 95 96 97 98 99 (t + 66)) := C _ (List.mem_of_getElem? (i := 7) rfl)
  have h101 : s.heap.get? (nat_lit 101) = some (methO 6 "__le__" mcl 100 (.ref 94)) := C _ (List.mem_of_getElem? (i := 8) rfl)
  have h112 : s.heap.get? (nat_lit 112) = some (nsO hs t) := C _ (List.mem_of_getElem? (i := 9) rfl)
  have h113 : s.heap.get? (nat_lit 113) = some (clsO t) := C _ (List.mem_of_getElem? (i := 10) rfl)
  have h114 : s.heap.get? (nat_lit 114) = some (descO t) := C _ (List.mem_of_getElem? (i := 11) rfl)
  delta codeN at h51 h92 h100
  delta lamO at h52
  delta cellO at h54
  delta methO fnO at h93 h101
  delta nsO at h112
  delta clsO at h113
  delta descO at h114
  revert X
  k_fill
  intro X
  x_run
end
end Mine

namespace Mine
abbrev pr : Program := PySem.Challenge.rw_dp0025_01.prog
abbrev NoE : Value → Shared → Prop := fun _ _ => False

/-- more room than asked does no harm -/
theorem in_room {α : Type} {M : Model} {A : Around} {t : Sem α} {Q : α → Shared → Prop} {E : Value → Shared → Prop} {s : Shared} (hA : A.handled = none) (hd : A.depth ≤ 400) (hu : A.units ≤ 400) (h : wpAny M AA t Q E s) : wpAny M A t Q E s :=
  fun Γ p hΓ => h Γ p ⟨hΓ.1.trans hA, Nat.le_trans hΓ.2.1 hd, fun l hl => (by cases hl), fun g hg => (by cases hg), Nat.le_trans hΓ.2.2.2.2 hu⟩

/-- a namespace that is written out -/
def esOf (o : Obj) : Array DictEntry := match o.data with
  | .dict es _ => es
  | _ => #[]
def isDictO (o : Obj) : Bool := match o.data with
  | .dict _ _ => true
  | _ => false
def strKeyO (o : Obj) : Bool := (esOf o).toList.all fun e => match e.key with
  | .str _ _ => true
  | _ => false
theorem ns_at {h : Heap} {a : Addr} {o : Obj} (e : h.get? a = some o) (hd : isDictO o = true) (hk : strKeyO o = true) : h.Ns a (nsFind (esOf o)) := by
  unfold isDictO at hd
  unfold strKeyO at hk
  cases q : o.data with
  | dict es ep =>
    have he : esOf o = es := by unfold esOf; rw [q]
    refine ⟨o, es, ep, e, q, fun x hx => ?_, fun name => by rw [he]⟩
    rw [he] at hk
    have := List.all_eq_true.mp hk x (by simpa using hx)
    cases kk : x.key with
    | str n t => exact ⟨n, t, rfl⟩
    | _ => rw [kk] at this; cases this
  | _ => rw [q] at hd; cases hd
section
variable {w : World} {h : Heap}
theorem main_ns (X : (fk w.params).In h) : h.Ns 3 (nsFind (esOf (mainO w.params))) := ns_at (X 3 _ (by kernel_rfl)) (by kernel_rfl) (by kernel_rfl)
theorem built_ns (X : (fk w.params).In h) : h.Ns 0 (nsFind (esOf (boot_o_0 w.params))) := ns_at (X 0 _ (by kernel_rfl)) (by kernel_rfl) (by kernel_rfl)
variable {A : Around} {s : Shared} {Q : Value → Shared → Prop} {E : Value → Shared → Prop} {pos : Pos}
/-- a built-in's name, from law's frame or from a comprehension's -/
theorem nm_len {env : Env} (X : (fk w.params).In s.heap) (hk : env.scope.kind = .function) (hx : env.kindOf "len" = some .globalImplicit) (hg : env.globals = 3) (hb : env.builtins = 0) (q : Q (.builtin "len") s) : wpAny (model pr w) A (eval (.Name "len" pos) env) Q E s :=
  Calls.Name_function_global hk hx (Calls.loadGlobal_builtin (hg ▸ main_ns X) (by kernel_rfl) (hb ▸ built_ns X) (by kernel_rfl) q)
theorem nm_range {env : Env} (X : (fk w.params).In s.heap) (hk : env.scope.kind = .function) (hx : env.kindOf "range" = some .globalImplicit) (hg : env.globals = 3) (hb : env.builtins = 0) (q : Q (.type "range") s) : wpAny (model pr w) A (eval (.Name "range" pos) env) Q E s :=
  Calls.Name_function_global hk hx (Calls.loadGlobal_builtin (hg ▸ main_ns X) (by kernel_rfl) (hb ▸ built_ns X) (by kernel_rfl) q)
theorem nm_lt {env : Env} (X : (fk w.params).In s.heap) (hk : env.scope.kind = .function) (hx : env.kindOf "_lt_from_le" = some .globalImplicit) (hg : env.globals = 3) (q : Q (.ref 21) s) : wpAny (model pr w) A (eval (.Name "_lt_from_le" pos) env) Q E s :=
  Calls.Name_function_global hk hx (Calls.loadGlobal_global (hg ▸ main_ns X) (by kernel_rfl) q)
end

/-- what the loops work on: the keys' list and its items, the letters' list and its ints, the parts' list -/
structure Cx where
  w : World
  hs : Nat → Int
  t : Nat
  h₀ : Heap
  kl : Nat
  ll : Nat
  pl : Nat
  krs : List Nat
  lvs : List Value
  ls : List Int
def Cx.x (c : Cx) (i : Nat) : Int := c.ls.getD i 0
def Cx.n (c : Cx) : Nat := c.ls.length
structure Cx.Ok (c : Cx) : Prop where
  size : c.h₀.objs.size = 42
  vals : IntsAre c.lvs c.ls
  len : c.krs.length = c.ls.length
  small : c.ls.length ≤ 33
  kl : (c.kl ≠ 42 ∧ c.kl ≠ 43 ∧ c.kl ≠ 45) ∧ c.kl ≠ c.pl
  ll : (c.ll ≠ 42 ∧ c.ll ≠ 43 ∧ c.ll ≠ 45) ∧ c.ll ≠ c.pl
  pl : 115 ≤ c.pl
  krs : ∀ a ∈ c.krs, (a ≠ 42 ∧ a ≠ 43 ∧ a ≠ 45) ∧ a ≠ c.pl
structure GS (c : Cx) (rs : List Nat) (ps : List (Nat × Nat)) (h : Heap) : Prop where
  old : OldK c.h₀ h
  X : (fk c.w.params).In h
  C : clsAll c.hs c.t h
  keys : h.IsList c.kl (c.krs.map Value.ref).toArray
  key : ∀ (i : Nat) (a : Nat), c.krs[i]? = some a → ∃ (da : Addr) (ti : Tok) (num : Int), h.get? a = some (keyO num ti da) ∧ c.ls[i]? = some (Int.fmod num 3)
  lets : h.IsList c.ll c.lvs.toArray
  cellP : h.IsCell 44 (some (.ref c.pl))
  cellQ : ∃ v, h.IsCell 45 v
  parts : PlainL h c.pl (rs.map Value.ref).toArray
  part : ∀ (k : Nat) (r : Nat) (q : Nat × Nat), rs[k]? = some r → ps[k]? = some q → h.PlainList r ((c.lvs.drop q.1).take q.2).toArray
  ne : ∀ r ∈ rs, 115 ≤ r ∧ r ≠ c.pl
  len : rs.length = ps.length
theorem leN {a b : Nat} (h : a ≤ b) : a ≤ b := h
theorem fk_low {P : Params} {a : Addr} {o : Obj} (e : (fk P).lookup a = some o) : @LT.lt Nat _ a 42 := by
  have k : ∀ (l : Frag), l.lookup a = some o → (l.all fun p => Nat.blt p.1 42) = true → @LT.lt Nat _ a 42 := by
    intro l
    induction l with
    | nil => intro h; cases h
    | cons p l ih =>
      intro h h2
      rw [List.all_cons, Bool.and_eq_true] at h2
      rw [List.lookup_cons] at h
      cases q : (a == p.1) with
      | true =>
        have : a = p.1 := by simpa using q
        rw [this]; exact Nat.le_of_ble_eq_true h2.1
      | false => rw [q] at h; exact ih h h2.2
  exact k _ e (by kernel_rfl)
theorem fcl_at {hs : Nat → Int} {t : Nat} : ∀ p ∈ fcl hs t, @LE.le Nat _ 46 p.1 ∧ @LT.lt Nat _ p.1 115 := by
  have : ((fcl hs t).all fun p => Nat.ble 46 p.1 && Nat.blt p.1 115) = true := by kernel_rfl
  intro p hp
  have q := List.all_eq_true.mp this p hp
  rw [Bool.and_eq_true] at q
  exact ⟨Nat.le_of_ble_eq_true q.1, Nat.le_of_ble_eq_true q.2⟩
theorem isList_same {h h' : Heap} {a b : Addr} {its : Array Value} (x : h.IsList b its) (hs : Heap.SameBut a h h') (ne : b ≠ a) : h'.IsList b its := by
  obtain ⟨o, ho, r⟩ := x
  exact ⟨o, (hs.2 b ne).trans ho, r⟩
theorem isCell_same {h h' : Heap} {a b : Addr} {v : Option Value} (x : h.IsCell b v) (hs : Heap.SameBut a h h') (ne : b ≠ a) : h'.IsCell b v := by
  obtain ⟨o, ho, r⟩ := x
  exact ⟨o, (hs.2 b ne).trans ho, r⟩
section
variable {c : Cx} {rs : List Nat} {ps : List (Nat × Nat)} {h h' : Heap}
theorem GS.ext (I : GS c rs ps h) (k : ∀ b o, h.get? b = some o → h'.get? b = some o) : GS c rs ps h' := by
  have L : ∀ {b : Addr} {its : Array Value}, h.IsList b its → h'.IsList b its := fun ⟨o, ho, r⟩ => ⟨o, k _ _ ho, r⟩
  refine ⟨I.old.step_keeps k, I.X.keeps k, fun p hp => k _ _ (I.C p hp), L I.keys, fun i a e => ?_, L I.lets, I.cellP.keeps k, I.cellQ.imp fun v q => q.keeps k, I.parts.keeps k, fun i r q h1 h2 => (I.part i r q h1 h2).at fun o e => k _ _ e, I.ne, I.len⟩
  obtain ⟨da, ti, num, h1, h2⟩ := I.key i a e
  exact ⟨da, ti, num, k _ _ h1, h2⟩
/-- an address that none of the known things has -/
structure Away (c : Cx) (rs : List Nat) (a : Nat) : Prop where
  low : 42 ≤ a ∧ a ≠ 44 ∧ (a < 46 ∨ 115 ≤ a)
  kl : c.kl ≠ a
  ll : c.ll ≠ a
  pl : c.pl ≠ a
  krs : ∀ b ∈ c.krs, b ≠ a
  rs : ∀ r ∈ rs, r ≠ a
theorem GS.sameG (O : c.Ok) (I : GS c rs ps h) {a : Nat} (W : Away c rs a) (hs : Heap.SameBut a h h') (hq : ∃ v, h'.IsCell 45 v) : GS c rs ps h' := by
  have w1 := W.low
  refine ⟨I.old.step_same (by rw [O.size]; exact leN w1.1) hs, fun b o e => ?_, fun p hp => ?_, isList_same I.keys hs W.kl, fun i b e => ?_, isList_same I.lets hs W.ll, isCell_same I.cellP hs (neN (by omega)),
    hq, I.parts.extBut hs.extBut W.pl, fun i r q h1 h2 => (I.part i r q h1 h2).at fun o e => (hs.2 r (W.rs r (List.mem_of_getElem? h1))).trans e, I.ne, I.len⟩
  · exact (hs.2 b (neN (by have := fk_low e; omega))).trans (I.X b o e)
  · exact (hs.2 p.1 (neN (by have := fcl_at p hp; omega))).trans (I.C p hp)
  · obtain ⟨da, ti, num, h1, h2⟩ := I.key i b e
    exact ⟨da, ti, num, (hs.2 b (W.krs b (List.mem_of_getElem? e))).trans h1, h2⟩
theorem away_of (O : c.Ok) (I : GS c rs ps h) {a : Nat} (ha : a < 46) (h2 : 42 ≤ a ∧ a ≠ 44) : Away c rs a :=
  ⟨⟨h2.1, h2.2, .inl ha⟩, by have := O.kl.1; omega, by have := O.ll.1; omega, by have := O.pl; omega, fun b hb => by have := (O.krs b hb).1; omega, fun r hr => by have := (I.ne r hr).1; omega⟩
theorem GS.same42 (O : c.Ok) (I : GS c rs ps h) (hs : Heap.SameBut 42 h h') : GS c rs ps h' :=
  I.sameG O (away_of O I (by omega) (by omega)) hs (I.cellQ.imp fun v q => isCell_same q hs (neN (by omega)))
/-- a new address is away -/
theorem GS.away_new (O : c.Ok) (I : GS c rs ps h) {a : Nat} (ha : h.objs.size ≤ a) : Away c rs a := by
  have lt : ∀ {b : Nat} {o : Obj}, h.get? b = some o → b < a := fun {b o} e => Nat.lt_of_lt_of_le (Heap.lt_size e) ha
  have hp := lt (Classical.choose_spec (Classical.choose_spec I.parts)).1
  refine ⟨⟨by have := O.pl; omega, by have := O.pl; omega, .inr (by have := O.pl; omega)⟩, ?_, ?_, by omega, fun b hb => ?_, fun r hr => ?_⟩
  · obtain ⟨o, ho, _⟩ := I.keys
    have := lt ho; omega
  · obtain ⟨o, ho, _⟩ := I.lets
    have := lt ho; omega
  · obtain ⟨i, hi⟩ := List.getElem?_of_mem hb
    obtain ⟨da, ti, num, h1, _⟩ := I.key i b hi
    have := lt h1; omega
  · obtain ⟨i, hi⟩ := List.getElem?_of_mem hr
    have hl : i < ps.length := by rw [← I.len]; exact (List.getElem?_eq_some_iff.mp hi).1
    obtain ⟨n, e⟩ := I.part i r ps[i] hi (List.getElem?_eq_getElem hl)
    have := lt e; omega
theorem GS.app (O : c.Ok) (I : GS c rs ps h) {r : Nat} {q : Nat × Nat} (hr : h.PlainList r ((c.lvs.drop q.1).take q.2).toArray) (hr2 : 115 ≤ r ∧ r ≠ c.pl) (hs : Heap.SameBut c.pl h h') (hp : PlainL h' c.pl ((rs ++ [r]).map Value.ref).toArray) : GS c (rs ++ [r]) (ps ++ [q]) h' := by
  have hpl := O.pl
  refine ⟨I.old.step_same (by rw [O.size]; exact leN (by omega)) hs, fun a o e => ?_, fun p hp => ?_, isList_same I.keys hs O.kl.2, fun i a e => ?_, isList_same I.lets hs O.ll.2, isCell_same I.cellP hs (neN (by omega)),
    I.cellQ.imp fun v q => isCell_same q hs (neN (by omega)), hp, fun i r' q' h1 h2 => ?_, ?_, by simp [I.len]⟩
  · exact (hs.2 a (neN (by have := fk_low e; omega))).trans (I.X a o e)
  · exact (hs.2 p.1 (neN (by have := fcl_at p hp; omega))).trans (I.C p hp)
  · obtain ⟨da, ti, num, h1, h2⟩ := I.key i a e
    exact ⟨da, ti, num, (hs.2 a (O.krs a (List.mem_of_getElem? e)).2).trans h1, h2⟩
  · by_cases hi : i < rs.length
    · rw [List.getElem?_append_left hi] at h1
      rw [List.getElem?_append_left (by rw [← I.len]; exact hi)] at h2
      exact (I.part i r' q' h1 h2).at fun o e => (hs.2 r' (I.ne r' (List.mem_of_getElem? h1)).2).trans e
    · by_cases hi2 : i = rs.length
      · subst hi2
        rw [List.getElem?_append_right (Nat.le_refl _), Nat.sub_self] at h1
        rw [I.len, List.getElem?_append_right (Nat.le_refl _), Nat.sub_self] at h2
        cases h1; cases h2
        exact hr.at fun o e => (hs.2 r hr2.2).trans e
      · rw [List.getElem?_eq_none (by simp; omega)] at h1; cases h1
  · intro r' h1
    rcases List.mem_append.mp h1 with h1 | h1
    · exact I.ne r' h1
    · rw [List.mem_singleton.mp h1]; exact hr2
end

/-- law's locals, as far as the loops ask -/
structure Lo (c : Cx) (sv nv fv pv : Option Value) (h : Heap) : Prop where
  ex : ∃ m, h.Ns 42 m ∧ m "keys" = some (.ref c.kl) ∧ m "letters" = some (.ref c.ll) ∧ m "start" = sv ∧ m "near" = nv ∧ m "far" = fv ∧ m "step" = pv
theorem Lo.ext {c : Cx} {sv nv fv pv : Option Value} {h h' : Heap} (I : Lo c sv nv fv pv h) (k : ∀ b o, h.get? b = some o → h'.get? b = some o) : Lo c sv nv fv pv h' := by
  obtain ⟨m, a, r⟩ := I.ex
  exact ⟨m, a.keeps k, r⟩
theorem lawEnv_kind : lawEnv.scope.kind = .function := by kernel_rfl
section
variable {c : Cx} {rs : List Nat} {ps : List (Nat × Nat)} {sv nv fv pv : Option Value} {A : Around} {s : Shared} {E : Value → Shared → Prop}
theorem ld_keys {Q : Value → Shared → Prop} {pos : Pos} (I : Lo c sv nv fv pv s.heap) (q : Q (.ref c.kl) s) : wpAny (model pr c.w) A (eval (.Name "keys" pos) lawEnv) Q E s := by
  obtain ⟨m, a, h1, h2, h3, h4, h5, h6⟩ := I.ex
  exact wpAny_Name (wpAny_loadName_local lawEnv_kind (by kernel_rfl) a h1 q)
theorem ld_letters {Q : Value → Shared → Prop} {pos : Pos} (I : Lo c sv nv fv pv s.heap) (q : Q (.ref c.ll) s) : wpAny (model pr c.w) A (eval (.Name "letters" pos) lawEnv) Q E s := by
  obtain ⟨m, a, h1, h2, h3, h4, h5, h6⟩ := I.ex
  exact wpAny_Name (wpAny_loadName_local lawEnv_kind (by kernel_rfl) a h2 q)
theorem ln_start {v : Value} {Q : Value → Shared → Prop} (I : Lo c (some v) nv fv pv s.heap) (q : Q v s) : wpAny (model pr c.w) A (loadName lawEnv "start") Q E s := by
  obtain ⟨m, a, h1, h2, h3, h4, h5, h6⟩ := I.ex
  exact wpAny_loadName_local lawEnv_kind (by kernel_rfl) a h3 q
theorem ln_near {v : Value} {Q : Value → Shared → Prop} (I : Lo c sv (some v) fv pv s.heap) (q : Q v s) : wpAny (model pr c.w) A (loadName lawEnv "near") Q E s := by
  obtain ⟨m, a, h1, h2, h3, h4, h5, h6⟩ := I.ex
  exact wpAny_loadName_local lawEnv_kind (by kernel_rfl) a h4 q
theorem ln_far {v : Value} {Q : Value → Shared → Prop} (I : Lo c sv nv (some v) pv s.heap) (q : Q v s) : wpAny (model pr c.w) A (loadName lawEnv "far") Q E s := by
  obtain ⟨m, a, h1, h2, h3, h4, h5, h6⟩ := I.ex
  exact wpAny_loadName_local lawEnv_kind (by kernel_rfl) a h5 q
theorem ln_step {v : Value} {Q : Value → Shared → Prop} (I : Lo c sv nv fv (some v) s.heap) (q : Q v s) : wpAny (model pr c.w) A (loadName lawEnv "step") Q E s := by
  obtain ⟨m, a, h1, h2, h3, h4, h5, h6⟩ := I.ex
  exact wpAny_loadName_local lawEnv_kind (by kernel_rfl) a h6 q
theorem ne_str {a b : Str} (h : (a == b) = false) : ¬ a = b := fun e => by rw [e, beq_self_eq_true] at h; cases h
theorem st_start {v : Value} {Q : Unit → Shared → Prop} (O : c.Ok) (G : GS c rs ps s.heap) (I : Lo c sv nv fv pv s.heap) (q : ∀ h', GS c rs ps h' → Lo c (some v) nv fv pv h' → Q () { s with heap := h', toks := s.toks + 1 }) : wpAny (model pr c.w) A (storeName lawEnv "start" v) Q E s := by
  obtain ⟨m, a, h1, h2, h3, h4, h5, h6⟩ := I.ex
  refine wpAny_storeName_local (by kernel_rfl) a (fun h' hn hs => q h' (G.same42 O hs) ⟨_, hn, ?_, ?_, ?_, ?_, ?_, ?_⟩) (by kernel_rfl)
  · exact (if_neg (ne_str (by kernel_rfl))).trans h1
  · exact (if_neg (ne_str (by kernel_rfl))).trans h2
  · exact if_pos rfl
  · exact (if_neg (ne_str (by kernel_rfl))).trans h4
  · exact (if_neg (ne_str (by kernel_rfl))).trans h5
  · exact (if_neg (ne_str (by kernel_rfl))).trans h6
theorem st_near {v : Value} {Q : Unit → Shared → Prop} (O : c.Ok) (G : GS c rs ps s.heap) (I : Lo c sv nv fv pv s.heap) (q : ∀ h', GS c rs ps h' → Lo c sv (some v) fv pv h' → Q () { s with heap := h', toks := s.toks + 1 }) : wpAny (model pr c.w) A (storeName lawEnv "near" v) Q E s := by
  obtain ⟨m, a, h1, h2, h3, h4, h5, h6⟩ := I.ex
  refine wpAny_storeName_local (by kernel_rfl) a (fun h' hn hs => q h' (G.same42 O hs) ⟨_, hn, ?_, ?_, ?_, ?_, ?_, ?_⟩) (by kernel_rfl)
  · exact (if_neg (ne_str (by kernel_rfl))).trans h1
  · exact (if_neg (ne_str (by kernel_rfl))).trans h2
  · exact (if_neg (ne_str (by kernel_rfl))).trans h3
  · exact if_pos rfl
  · exact (if_neg (ne_str (by kernel_rfl))).trans h5
  · exact (if_neg (ne_str (by kernel_rfl))).trans h6
theorem st_far {v : Value} {Q : Unit → Shared → Prop} (O : c.Ok) (G : GS c rs ps s.heap) (I : Lo c sv nv fv pv s.heap) (q : ∀ h', GS c rs ps h' → Lo c sv nv (some v) pv h' → Q () { s with heap := h', toks := s.toks + 1 }) : wpAny (model pr c.w) A (storeName lawEnv "far" v) Q E s := by
  obtain ⟨m, a, h1, h2, h3, h4, h5, h6⟩ := I.ex
  refine wpAny_storeName_local (by kernel_rfl) a (fun h' hn hs => q h' (G.same42 O hs) ⟨_, hn, ?_, ?_, ?_, ?_, ?_, ?_⟩) (by kernel_rfl)
  · exact (if_neg (ne_str (by kernel_rfl))).trans h1
  · exact (if_neg (ne_str (by kernel_rfl))).trans h2
  · exact (if_neg (ne_str (by kernel_rfl))).trans h3
  · exact (if_neg (ne_str (by kernel_rfl))).trans h4
  · exact if_pos rfl
  · exact (if_neg (ne_str (by kernel_rfl))).trans h6
theorem st_step {v : Value} {Q : Unit → Shared → Prop} (O : c.Ok) (G : GS c rs ps s.heap) (I : Lo c sv nv fv pv s.heap) (q : ∀ h', GS c rs ps h' → Lo c sv nv fv (some v) h' → Q () { s with heap := h', toks := s.toks + 1 }) : wpAny (model pr c.w) A (storeName lawEnv "step" v) Q E s := by
  obtain ⟨m, a, h1, h2, h3, h4, h5, h6⟩ := I.ex
  refine wpAny_storeName_local (by kernel_rfl) a (fun h' hn hs => q h' (G.same42 O hs) ⟨_, hn, ?_, ?_, ?_, ?_, ?_, ?_⟩) (by kernel_rfl)
  · exact (if_neg (ne_str (by kernel_rfl))).trans h1
  · exact (if_neg (ne_str (by kernel_rfl))).trans h2
  · exact (if_neg (ne_str (by kernel_rfl))).trans h3
  · exact (if_neg (ne_str (by kernel_rfl))).trans h4
  · exact (if_neg (ne_str (by kernel_rfl))).trans h5
  · exact if_pos rfl
end
end Mine

namespace Mine
def whT : Stmt → Expr
  | .While t _ _ _ => t
  | _ => .Constant .none 0 ⟨0, 0, 0, 0⟩
def whB : Stmt → List Stmt
  | .While _ b _ _ => b
  | _ => []
def outerW : Stmt := nth lawB 6
def inner1 : Stmt := nth (whB outerW) 2
def inner2 : Stmt := nth (whB outerW) 4
structure Room (A : Around) : Prop where
  h : A.handled = none
  d : A.depth ≤ 350
  u : A.units ≤ 350
section
variable {c : Cx} {rs : List Nat} {ps : List (Nat × Nat)} {sv nv fv pv : Option Value} {A : Around} {s : Shared}
theorem x_at {i : Nat} {v : Int} (h : c.ls[i]? = some v) : c.x i = v := by unfold Cx.x; rw [List.getD_eq_getElem?_getD, h]; rfl
theorem krs_at (O : c.Ok) {i : Nat} (hi : i < c.n) : ∃ a, c.krs[i]? = some a := ⟨c.krs[i]'(by rw [O.len]; exact hi), List.getElem?_eq_getElem _⟩
set_option maxHeartbeats 1000000 in
theorem lt_with (R : Room A) (G : GS c rs ps s.heap) {e1 e2 : Expr} {pos : Pos} {a b ia ib : Nat} (ha : c.krs[ia]? = some a) (hb : c.krs[ib]? = some b)
    (v1 : ∀ Q' : Value → Shared → Prop, Q' (.ref a) s → wpAny (model pr c.w) A (eval e1 lawEnv) Q' NoE s) (v2 : ∀ Q' : Value → Shared → Prop, Q' (.ref b) s → wpAny (model pr c.w) A (eval e2 lawEnv) Q' NoE s) {Q : Value → Shared → Prop}
    (ht : starEach [e1, e2] lawEnv = [(false, eval e1 lawEnv), (false, eval e2 lawEnv)])
    (q : ∀ (r : Bool) (h' : Heap) (tk : Nat), (∀ b o, s.heap.get? b = some o → h'.get? b = some o) → (r = true ↔ c.x ia < c.x ib) → Q (.bool r) ⟨h', s.gens, s.drawn, tk, s.os⟩) :
    wpAny (model pr c.w) A (callWith pos (.ref 21) [] (backTo pos (starEach [e1, e2] lawEnv)) []) Q NoE s := by
  rw [ht]
  refine Calls.callWith_function (o := fnO (stm 1) "_lt_from_le" [] pmF (.ref 20) .none) (fd := fdOf (stm 1) "_lt_from_le" [] pmF (.ref 20) .none) ?_
  refine Calls.evalArgs_plain (Calls.spliced_cons (v1 _ (Calls.spliced_cons (v2 _ (Calls.spliced_nil ⟨⟨G.X 21 _ (by kernel_rfl), rfl⟩, ?_⟩)))))
  obtain ⟨da, ti, na, h1, h2⟩ := G.key ia a ha
  obtain ⟨db, tj, nb, h3, h4⟩ := G.key ib b hb
  refine in_room R.h (by have := R.d; omega) (by have := R.u; omega) (leaf_lt c.w s G.X c.hs c.t G.C a b da db na nb ti tj h1 h3 Q NoE fun r h' tk e k => q r h' tk k ?_)
  rw [x_at h2, x_at h4]
  exact e
theorem key_at (O : c.Ok) (G : GS c rs ps s.heap) (I : Lo c sv nv fv pv s.heap) {x : Str} {p1 p2 p3 : Pos} {i : Nat} {ti : Tok} {a : Nat} (hi : i < c.n) (ha : c.krs[i]? = some a)
    (v : ∀ Q' : Value → Shared → Prop, Q' (.int i ti) s → wpAny (model pr c.w) A (loadName lawEnv x) Q' NoE s) (hx : (x == ("__debug__" : Str)) = false) {Q : Value → Shared → Prop} (q : Q (.ref a) s) :
    wpAny (model pr c.w) A (eval (.Subscript (.Name "keys" p1) (.Name x p2) p3) lawEnv) Q NoE s := by
  refine Subscript_ (ld_keys I (wpAny_Name (v _ ?_) hx))
  refine item_list G.keys (Int.natCast_nonneg i) (by have := O.small; have : c.n = c.ls.length := rfl; omega) (x := .ref a) ?_ q
  rw [Int.toNat_natCast, List.getElem?_toArray, List.getElem?_map, ha]; rfl
set_option maxHeartbeats 1000000 in
theorem test1 (O : c.Ok) (R : Room A) (G : GS c rs ps s.heap) {i j : Nat} {ti tj : Tok} (I : Lo c sv (some (.int j tj)) (some (.int i ti)) pv s.heap) (hj : j < c.n) {Q : Bool → Shared → Prop}
    (q : ∀ (b : Bool) (h' : Heap) (tk : Nat), GS c rs ps h' → Lo c sv (some (.int j tj)) (some (.int i ti)) pv h' → (b = true ↔ (i < c.n ∧ ¬ c.x i < c.x j)) → Q b ⟨h', s.gens, s.drawn, tk, s.os⟩) :
    wpAny (model pr c.w) A (isTrue (whT inner1) lawEnv (eval (whT inner1) lawEnv)) Q NoE s := by
  refine wpAny_isTrue_BoolOp ?_
  refine wpAny_allTrue_And_cons ?_
  refine wpAny_isTrue_Compare1 ?_
  refine wpAny_Name (ln_far I ?_)
  refine wpAny_Call_ofName ?_
  refine nm_len G.X lawEnv_kind (by kernel_rfl) rfl rfl ?_
  refine Calls.callWith_builtin (by rfl) ?_
  refine Calls.evalArgs_plain (Calls.spliced_cons ?_)
  refine ld_keys I ?_
  refine Calls.spliced_nil ?_
  refine len_list G.keys (by simp; have := O.small; have := O.len; omega) ?_
  refine wpAny_lt_int ?_
  refine wpAny_truthy_bool ?_
  have hn : ((c.krs.map Value.ref).toArray.size : Int) = (c.n : Int) := by simp [Cx.n, O.len]
  by_cases hi : i < c.n
  · rw [if_pos (by rw [hn]; exact decide_eq_true (by omega))]
    refine wpAny_allTrue_And_cons ?_
    refine wpAny_isTrue_Not ?_
    refine wpAny_isTrue_value ?_
    refine wpAny_Call_ofName ?_
    refine nm_lt G.X lawEnv_kind (by kernel_rfl) rfl ?_
    obtain ⟨a, ha⟩ := krs_at O hi
    obtain ⟨b, hb⟩ := krs_at O hj
    have G' : GS c rs ps ({ s with toks := s.toks + 1 + 1 } : Shared).heap := G
    have I' : Lo c sv (some (.int j tj)) (some (.int i ti)) pv ({ s with toks := s.toks + 1 + 1 } : Shared).heap := I
    refine lt_with R G' ha hb (fun Q' q' => key_at O G' I' hi ha (fun _ q2 => ln_far I' q2) (by decide) q') (fun Q' q' => key_at O G' I' hj hb (fun _ q2 => ln_near I' q2) (by decide) q') (by rfl) fun r h' tk k e => ?_
    refine wpAny_truthy_bool ?_
    cases r with
    | true => exact q false _ _ (G.ext k) (I.ext k) ⟨fun e => (nomatch e), fun e' => absurd (e.mp rfl) e'.2⟩
    | false => exact wpAny_allTrue_And_nil (q true _ _ (G.ext k) (I.ext k) ⟨fun _ => ⟨hi, fun e' => (nomatch e.mpr e')⟩, fun _ => rfl⟩)
  · rw [if_neg (by rw [hn]; simp; omega)]
    exact q false _ _ G I ⟨fun e => (nomatch e), fun e => absurd e.1 hi⟩
set_option maxHeartbeats 1000000 in
theorem body1 (O : c.Ok) (R : Room A) (G : GS c rs ps s.heap) {p i j : Nat} {tp ti tj : Tok} (I : Lo c (some (.int p tp)) (some (.int j tj)) (some (.int i ti)) pv s.heap) (hi : i < c.n) (hj : j < c.n) {Q : Flow → Shared → Prop}
    (q : ∀ (j' : Nat) (tj' ti' : Tok) (h' : Heap) (tk : Nat), GS c rs ps h' → Lo c (some (.int p tp)) (some (.int j' tj')) (some (.int (i + 1 : Nat) ti')) pv h' → ((c.x j < c.x i ∧ j' = p) ∨ (¬ c.x j < c.x i ∧ j' = j + 1)) → Q .next ⟨h', s.gens, s.drawn, tk, s.os⟩) :
    wpAny (model pr c.w) A (execs (whB inner1) lawEnv) Q NoE s := by
  refine wpAny_execs_cons (wpAny_If (wpAny_isTrue_value (wpAny_Call_ofName (nm_lt G.X lawEnv_kind (by kernel_rfl) rfl ?_))))
  obtain ⟨a, ha⟩ := krs_at O hi
  obtain ⟨b, hb⟩ := krs_at O hj
  refine lt_with R G hb ha (fun Q' q' => key_at O G I hj hb (fun _ q2 => ln_near I q2) (by decide) q') (fun Q' q' => key_at O G I hi ha (fun _ q2 => ln_far I q2) (by decide) q') (by rfl) fun r h' tk k e => ?_
  refine wpAny_truthy_bool ?_
  have far : ∀ (j' : Nat) (tj' : Tok) (h₂ : Heap) (tk₂ : Nat), GS c rs ps h₂ → Lo c (some (.int p tp)) (some (.int j' tj')) (some (.int i ti)) pv h₂ → ((c.x j < c.x i ∧ j' = p) ∨ (¬ c.x j < c.x i ∧ j' = j + 1)) →
      wpAny (model pr c.w) A (execs [nth (whB inner1) 1] lawEnv) Q NoE ⟨h₂, s.gens, s.drawn, tk₂, s.os⟩ := by
    intro j' tj' h₂ tk₂ G₂ I₂ e₂
    refine wpAny_execs_cons (wpAny_AugAssign_Name (ln_far I₂ (wpAny_Constant_int (wpAny_iadd_int ?_))))
    refine st_far O G₂ I₂ fun h₃ G₃ I₃ => ?_
    exact wpAny_execs_nil (q j' tj' _ h₃ _ G₃ I₃ e₂)
  cases r with
  | true =>
    refine wpAny_execs_cons (wpAny_Assign_Name (wpAny_Name (ln_start (I.ext k) ?_)))
    refine st_near O (G.ext k) (I.ext k) fun h₃ G₃ I₃ => ?_
    exact wpAny_execs_nil (far p tp h₃ _ G₃ I₃ (.inl ⟨e.mp rfl, rfl⟩))
  | false =>
    refine wpAny_execs_cons (wpAny_AugAssign_Name (ln_near (I.ext k) (wpAny_Constant_int (wpAny_iadd_int ?_))))
    refine st_near O (G.ext k) (I.ext k) fun h₃ G₃ I₃ => ?_
    exact wpAny_execs_nil (far (j + 1) _ h₃ _ G₃ I₃ (.inr ⟨fun x => (nomatch e.mpr x), rfl⟩))
/-- the first inner loop -/
theorem loop1 (O : c.Ok) (R : Room A) {g : Array GenState} {dr : Drawn} {os : OsState} {p : Nat} {tp : Tok} {Q : Flow → Shared → Prop}
    (q : ∀ (j i : Nat) (tj ti : Tok) (h : Heap) (tk : Nat), GS c rs ps h → Lo c (some (.int p tp)) (some (.int j tj)) (some (.int i ti)) pv h → In1 c.x c.n p j i → (i = c.n ∨ (i < c.n ∧ c.x i < c.x j)) → Q .next ⟨h, g, dr, tk, os⟩) :
    ∀ (r j i : Nat) (tj ti : Tok) (h : Heap) (tk : Nat), c.n - i = r → GS c rs ps h → Lo c (some (.int p tp)) (some (.int j tj)) (some (.int i ti)) pv h → In1 c.x c.n p j i →
      WhlRest pr c.w A NoE lawEnv (whT inner1) (whB inner1) [] Q r ⟨h, g, dr, tk, os⟩ := by
  intro r
  induction r with
  | zero =>
    intro j i tj ti h tk hr G I J
    refine whl_turn (k := 0) PassesOwn.never ?_
    have := J.ji
    have := J.n
    refine test1 O R G I (by omega) fun b h' tk' G' I' e => ?_
    have hb : b = false := by
      cases b with
      | false => rfl
      | true => have := (e.mp rfl).1; omega
    subst hb
    exact WhlIf.no rfl (wpAny_execs_nil (q j i tj ti h' tk' G' I' J (.inl (by omega))))
  | succ r ih =>
    intro j i tj ti h tk hr G I J
    refine whl_turn PassesOwn.never ?_
    have h1 := J.ji
    have h2 := J.n
    have hj : j < c.n := by omega
    refine test1 O R G I hj fun b h' tk' G' I' e => ?_
    have hi : i < c.n := by omega
    cases b with
    | false =>
      refine WhlIf.no rfl (wpAny_execs_nil (q j i tj ti h' tk' G' I' J (.inr ⟨hi, ?_⟩)))
      by_cases hx : c.x i < c.x j
      · exact hx
      · exact (nomatch e.mpr ⟨hi, hx⟩)
    | true =>
      refine WhlIf.yes rfl ?_
      have e' := (e.mp rfl).2
      refine body1 O R G' I' hi hj fun j' tj' ti' h₂ tk₂ G₂ I₂ e₂ => ?_
      refine ih j' (i + 1) tj' ti' h₂ tk₂ (by omega) G₂ I₂ ?_
      rcases e₂ with ⟨e₂, rfl⟩ | ⟨e₂, rfl⟩
      · exact J.less hi e₂
      · exact J.same hi (by omega)
end
end Mine

namespace Mine
section
variable {c : Cx} {rs : List Nat} {ps : List (Nat × Nat)} {sv nv fv pv : Option Value} {A : Around} {s : Shared}
theorem test2 {i j : Nat} {ti tj : Tok} (I : Lo c (some (.int i ti)) (some (.int j tj)) fv pv s.heap) {Q : Bool → Shared → Prop} (q : Q (decide (i ≤ j)) s) :
    wpAny (model pr c.w) A (isTrue (whT inner2) lawEnv (eval (whT inner2) lawEnv)) Q NoE s := by
  refine wpAny_isTrue_Compare1 (wpAny_Name (ln_start I (wpAny_Name (ln_near I (P.le_int (wpAny_truthy_bool ?_))))))
  have : decide ((i : Int) ≤ (j : Int)) = decide (i ≤ j) := by
    by_cases h : i ≤ j
    · rw [decide_eq_true h]; exact decide_eq_true (by omega)
    · rw [decide_eq_false h]; exact decide_eq_false (by omega)
  rw [this]; exact q
theorem Lo.same {h h' : Heap} {a : Nat} (I : Lo c sv nv fv pv h) (hs : Heap.SameBut a h h') (ne : 42 ≠ a) : Lo c sv nv fv pv h' := by
  obtain ⟨m, x, r⟩ := I.ex
  exact ⟨m, x.sameBut hs ne, r⟩
theorem push_keep {h : Heap} (o : Obj) : ∀ b ob, h.get? b = some ob → (h.push o).get? b = some ob := fun _ _ e => Heap.get?_push_of_some o e
set_option maxHeartbeats 1000000 in
theorem body2 (O : c.Ok) (G : GS c rs ps s.heap) {i d : Nat} {ti td : Tok} (I : Lo c (some (.int i ti)) nv fv (some (.int d td)) s.heap) (hi : i + d ≤ c.n) (hl : rs.length ≤ 1000) {Q : Flow → Shared → Prop}
    (q : ∀ (r : Nat) (ti' : Tok) (h' : Heap) (tk : Nat), GS c (rs ++ [r]) (ps ++ [(i, d)]) h' → Lo c (some (.int (i + d : Nat) ti')) nv fv (some (.int d td)) h' → Q .next ⟨h', s.gens, s.drawn, tk, s.os⟩) :
    wpAny (model pr c.w) A (execs (whB inner2) lawEnv) Q NoE s := by
  refine wpAny_execs_cons (wpAny_Expr ?_ (by kernel_rfl) (by rfl))
  refine wpAny_Call_append (by rfl) (by rfl) (by kernel_rfl) (by rfl) ?_
  refine wpAny_Name (wpAny_loadName_cell lawEnv_kind (by kernel_rfl) (by kernel_rfl) G.cellP ⟨c.pl, _, rfl, G.parts, ?_⟩)
  refine wpAny_Subscript_list_slice (ld_letters I ?_)
  refine wpAny_evalPart_some (wpAny_Name (ln_start I ?_))
  refine wpAny_evalPart_some (wpAny_BinOp (wpAny_Name (ln_start I (wpAny_Name (ln_step I (wpAny_add_int ?_))))))
  have hlen : c.lvs.toArray.size = c.n := by rw [List.size_toArray]; exact O.vals.length
  have hsm := O.small
  have hcn : c.n = c.ls.length := rfl
  refine ⟨c.ll, _, _, _, rfl, G.lets, by rw [hlen, sizeLine_eq]; omega, .int _ _, .int _ _, ?_⟩
  have e1 : slicePick c.lvs.toArray (some (i : Int)) (some ((i : Int) + (d : Int))) none = ((c.lvs.drop i).take d).toArray := by
    have := slicePick_run c.lvs.toArray i (i + d) (by rw [hlen]; exact hi) (by omega)
    rw [Nat.add_sub_cancel_left] at this
    exact this
  rw [e1]
  have hsz : c.pl < s.heap.objs.size := G.parts.lt
  have k : ∀ b ob, s.heap.get? b = some ob → ((s.heap.push { cls := .type "slice", data := .fields #[.int i ti, .int ((i : Int) + (d : Int)) s.toks, .none] }).push { cls := .type "list", data := .seq ((c.lvs.drop i).take d).toArray }).get? b = some ob :=
    fun b ob e => push_keep _ b ob (push_keep _ b ob e)
  refine list_append_plainL (G.parts.keeps k) (fun h' hp hs => ?_) (by simp [sizeLine_eq]; omega)
  have hr : ((s.heap.push { cls := .type "slice", data := .fields #[.int i ti, .int ((i : Int) + (d : Int)) s.toks, .none] }).push { cls := .type "list", data := .seq ((c.lvs.drop i).take d).toArray }).PlainList (s.heap.objs.size + 1) ((c.lvs.drop i).take d).toArray := by
    refine ⟨0, ?_⟩
    have := Heap.get?_push_size (s.heap.push { cls := .type "slice", data := .fields #[.int i ti, .int ((i : Int) + (d : Int)) s.toks, .none] }) (o := { cls := .type "list", data := .seq ((c.lvs.drop i).take d).toArray }) rfl
    rw [Heap.size_push] at this
    exact this
  have hpl := O.pl
  have G' : GS c (rs ++ [s.heap.objs.size + 1]) (ps ++ [(i, d)]) h' := (G.ext k).app O (q := (i, d)) hr ⟨leN (by have : c.pl < s.heap.objs.size := hsz; omega), neN (by have : c.pl < s.heap.objs.size := hsz; omega)⟩ hs (by
    have e2 : ((rs ++ [s.heap.objs.size + 1]).map Value.ref).toArray = (rs.map Value.ref).toArray.push (.ref (s.heap.objs.size + 1)) := by simp
    rw [e2]; exact hp)
  have I' := (I.ext k).same hs (neN (by omega))
  refine wpAny_execs_cons (wpAny_AugAssign_Name (ln_start I' (wpAny_Name (ln_step I' (wpAny_iadd_int ?_)))))
  refine st_start O G' I' fun h₃ G₃ I₃ => ?_
  exact wpAny_execs_nil (q _ _ h₃ _ G₃ I₃)
/-- the second inner loop -/
theorem loop2 (O : c.Ok) {g : Array GenState} {dr : Drawn} {os : OsState} {p j i : Nat} {tj : Tok} {td : Tok} {Q : Flow → Shared → Prop}
    (q : ∀ (rs : List Nat) (ps : List (Nat × Nat)) (st : Nat) (ts : Tok) (h : Heap) (tk : Nat), GS c rs ps h → Lo c (some (.int st ts)) (some (.int j tj)) fv (some (.int (i - j : Nat) td)) h → In2 c.x c.n p j i st ps → j < st → ps.length ≤ st → Q .next ⟨h, g, dr, tk, os⟩) :
    ∀ (r : Nat) (rs : List Nat) (ps : List (Nat × Nat)) (st : Nat) (ts : Tok) (h : Heap) (tk : Nat), j + 1 - st = r → ps.length ≤ st → GS c rs ps h → Lo c (some (.int st ts)) (some (.int j tj)) fv (some (.int (i - j : Nat) td)) h → In2 c.x c.n p j i st ps →
      WhlRest pr c.w A NoE lawEnv (whT inner2) (whB inner2) [] Q 0 ⟨h, g, dr, tk, os⟩ := by
  intro r
  induction r using Nat.strongRecOn with
  | _ r ih =>
    intro rs ps st ts h tk hr hps G I J
    refine whl_turn (k := 0) PassesOwn.never ?_
    have h1 := J.one.ji
    have h2 := J.one.n
    have hsm : c.n ≤ 33 := O.small
    have hle := J.le
    have hlen := G.len
    refine test2 I ?_
    by_cases hst : st ≤ j
    · refine WhlIf.yes (decide_eq_true hst) ?_
      refine body2 O G I (by omega) (by omega) fun r' ti' h' tk' G' I' => ?_
      exact ih (j + 1 - (st + (i - j))) (by omega) _ _ _ _ _ _ rfl (by simp; omega) G' I' (J.turn hst)
    · exact WhlIf.no (decide_eq_false hst) (wpAny_execs_nil (q rs ps st ts h tk G I J (by omega) hps))
/-- the outer loop -/
theorem outer_test (O : c.Ok) (G : GS c rs ps s.heap) {i : Nat} {ti : Tok} (I : Lo c (some (.int i ti)) nv fv pv s.heap) {Q : Bool → Shared → Prop} (q : ∀ tk, Q (decide (i < c.n)) ⟨s.heap, s.gens, s.drawn, tk, s.os⟩) :
    wpAny (model pr c.w) A (isTrue (whT outerW) lawEnv (eval (whT outerW) lawEnv)) Q NoE s := by
  refine wpAny_isTrue_Compare1 (wpAny_Name (ln_start I ?_))
  refine wpAny_Call_ofName (nm_len G.X lawEnv_kind (by kernel_rfl) rfl rfl ?_)
  refine Calls.callWith_builtin (by rfl) (Calls.evalArgs_plain (Calls.spliced_cons (ld_keys I (Calls.spliced_nil ?_))))
  refine len_list G.keys (by simp; have := O.small; have := O.len; omega) (wpAny_lt_int (wpAny_truthy_bool ?_))
  have hn : ((c.krs.map Value.ref).toArray.size : Int) = (c.n : Int) := by simp [Cx.n, O.len]
  rw [hn]
  have : decide ((i : Int) < (c.n : Int)) = decide (i < c.n) := by
    by_cases h : i < c.n
    · rw [decide_eq_true h]; exact decide_eq_true (by omega)
    · rw [decide_eq_false h]; exact decide_eq_false (by omega)
  rw [this]; exact q _
set_option maxHeartbeats 1000000 in
theorem outer_run (O : c.Ok) (R : Room A) {g : Array GenState} {dr : Drawn} {os : OsState} {Q : Flow → Shared → Prop}
    (q : ∀ (rs : List Nat) (ps : List (Nat × Nat)) (sv nv fv pv : Option Value) (h : Heap) (tk : Nat), GS c rs ps h → Lo c sv nv fv pv h → PI c.x c.n ps → ps.length ≤ c.n → Q .next ⟨h, g, dr, tk, os⟩) :
    ∀ (r : Nat) (rs : List Nat) (ps : List (Nat × Nat)) (p : Nat) (tp : Tok) (nv fv pv : Option Value) (h : Heap) (tk : Nat), c.n - p = r → p ≤ c.n → ps.length ≤ p → GS c rs ps h → Lo c (some (.int p tp)) nv fv pv h → PI c.x c.n ps → (∀ q, ps.getLast? = some q → Bnd c.x c.n q.1 q.2 p) →
      WhlRest pr c.w A NoE lawEnv (whT outerW) (whB outerW) [] Q 0 ⟨h, g, dr, tk, os⟩ := by
  intro r
  induction r using Nat.strongRecOn with
  | _ r ih =>
    intro rs ps p tp nv fv pv h tk hr hp hps G I PIn B
    refine whl_turn (k := 0) PassesOwn.never ?_
    refine outer_test O G I fun tk' => ?_
    by_cases hpn : p < c.n
    · refine WhlIf.yes (decide_eq_true hpn) ?_
      refine wpAny_execs_cons (wpAny_Assign_Name (wpAny_Name (ln_start I ?_)))
      refine st_near O G I fun h1 G1 I1 => ?_
      refine wpAny_execs_cons (wpAny_Assign_Name (wpAny_BinOp (wpAny_Name (ln_start I1 (wpAny_Constant_int (wpAny_add_int ?_))))))
      refine st_far O G1 I1 fun h2 G2 I2 => ?_
      refine wpAny_execs_cons (whl_start (c.n - (p + 1)) ?_)
      refine loop1 O R (fun j i tj ti h3 tk3 G3 I3 J st => ?_) (c.n - (p + 1)) p (p + 1) _ _ h2 _ rfl G2 I2 (In1.start hpn)
      have h1j := J.ji
      refine wpAny_execs_cons (wpAny_Assign_Name (wpAny_BinOp (wpAny_Name (ln_far I3 (wpAny_Name (ln_near I3 (P.sub_int ?_)))))))
      refine st_step O G3 I3 fun h4 G4 I4 => ?_
      have e : ((i : Int) - (j : Int)) = ((i - j : Nat) : Int) := by omega
      rw [e] at I4
      refine wpAny_execs_cons (whl_start 0 ?_)
      refine loop2 O (fun rs5 ps5 st5 ts5 h5 tk5 G5 I5 J5 hst hps5 => ?_) _ rs ps p tp h4 _ rfl hps G4 I4 (In2.start J st PIn B)
      obtain ⟨f1, f2, f3, f4⟩ := J5.fin hst
      exact wpAny_execs_nil (ih (c.n - st5) (by omega) rs5 ps5 st5 ts5 _ _ _ h5 tk5 rfl f2 hps5 G5 I5 f3 f4)
    · exact WhlIf.no (decide_eq_false hpn) (wpAny_execs_nil (q rs ps _ nv fv pv h tk' G I PIn (by omega)))
end
end Mine

open AutoSeq1 (wpAny_loadPart')
namespace Mine
theorem ints_at {vs : List Value} {xs : List Int} (h : IntsAre vs xs) : ∀ {i : Nat}, i < vs.length → ∃ x t, vs[i]? = some (.int x t) ∧ xs[i]? = some x := by
  induction h with
  | nil => intro i hi; simp at hi
  | cons n t _ ih =>
    intro i hi
    cases i with
    | zero => exact ⟨n, t, rfl, rfl⟩
    | succ i => simpa using ih (by simpa using hi)
theorem drop_at {xs : List Int} {i : Nat} {x : Int} (h : xs[i]? = some x) : xs.drop i = x :: xs.drop (i + 1) := by
  obtain ⟨hl, he⟩ := List.getElem?_eq_some_iff.mp h
  rw [← he]; exact List.drop_eq_getElem_cons hl
theorem pyLe_end1 {xs ys : List Int} {i : Nat} (h : xs.length ≤ i) (h2 : i ≤ ys.length) (h3 : i = xs.length) : pyLe (xs.drop i) (ys.drop i) = decide (xs.length ≤ ys.length) := by
  rw [List.drop_eq_nil_of_le h, decide_eq_true (by omega)]
  cases ys.drop i <;> rfl
theorem pyLt_end1 {xs ys : List Int} {i : Nat} (h : xs.length ≤ i) (h2 : i ≤ ys.length) (h3 : i = xs.length) : pyLt (xs.drop i) (ys.drop i) = decide (xs.length < ys.length) := by
  rw [List.drop_eq_nil_of_le h]
  by_cases hy : i = ys.length
  · rw [List.drop_eq_nil_of_le (by omega), decide_eq_false (by omega)]; rfl
  · rw [List.drop_eq_getElem_cons (show i < ys.length by omega), decide_eq_true (by omega)]; rfl
theorem pyLe_end2 {xs ys : List Int} {i : Nat} (h : i < xs.length) (h2 : ys.length ≤ i) : pyLe (xs.drop i) (ys.drop i) = decide (xs.length ≤ ys.length) := by
  rw [List.drop_eq_nil_of_le h2, List.drop_eq_getElem_cons h, decide_eq_false (by omega)]; rfl
theorem pyLt_end2 {xs ys : List Int} {i : Nat} (h : i < xs.length) (h2 : ys.length ≤ i) : pyLt (xs.drop i) (ys.drop i) = decide (xs.length < ys.length) := by
  rw [List.drop_eq_nil_of_le h2, List.drop_eq_getElem_cons h, decide_eq_false (by omega)]; rfl

theorem le_loop (l b : Addr) (vs ws : List Value) (xs ys : List Int) (hv : IntsAre vs xs) (hw : IntsAre ws ys) (n n2 : Nat) (k : Nat) :
    ∀ i : Nat, vs.length - i = k → i ≤ vs.length → i ≤ ws.length → Meets (Builtin.«list.__eq__.loop» ⟨[.ref l, .ref b, rawInt i, rawInt 1], []⟩)
      (fun _ R s => s.heap.get? l = some { cls := .type "list", dict := none, data := .seq vs.toArray n, slots := #[] } ∧ s.heap.get? b = some { cls := .type "list", dict := none, data := .seq ws.toArray n2, slots := #[] } ∧
        R (.ok (.ret (.bool (pyLe (xs.drop i) (ys.drop i))))) s) := by
  have lv := hv.length
  have lw := hw.length
  induction k with
  | zero =>
    intro i hk h1 h2 prog w A R s h
    obtain ⟨hp, g, d, tk, os⟩ := s; obtain ⟨hl, hb, h⟩ := h
    wp_walk using wpAny_loadPart' hl, wpAny_loadPart' hb
    have hi1 : vs.toArray[((i : Nat) : Int).toNat]? = none := by simp; omega
    rw [hi1]
    wp_walk using wpAny_loadPart' hl, wpAny_loadPart' hb
    show R (.ok (.ret (.bool (decide (vs.toArray.size ≤ ws.toArray.size))))) _
    rw [pyLe_end1 (show xs.length ≤ i by omega) (show i ≤ ys.length by omega) (show i = xs.length by omega)] at h
    rw [List.size_toArray, List.size_toArray, lv, lw]
    exact h
  | succ k ih =>
    intro i hk h1 h2 prog w A R s h
    obtain ⟨hp, g, d, tk, os⟩ := s; obtain ⟨hl, hb, h⟩ := h
    wp_walk using wpAny_loadPart' hl, wpAny_loadPart' hb
    have hlt : i < vs.length := by omega
    obtain ⟨x, tx, hx1, hx2⟩ := ints_at hv hlt
    have hi1 : vs.toArray[((i : Nat) : Int).toNat]? = some (.int x tx) := by rw [Int.toNat_natCast, List.getElem?_toArray]; exact hx1
    by_cases hlt2 : i < ws.length
    · obtain ⟨y, ty, hy1, hy2⟩ := ints_at hw hlt2
      have hi2 : ws.toArray[((i : Nat) : Int).toNat]? = some (.int y ty) := by rw [Int.toNat_natCast, List.getElem?_toArray]; exact hy1
      have hc : ((i : Int) + 1) = ((i + 1 : Nat) : Int) := by push_cast; rfl
      rw [drop_at hx2, drop_at hy2] at h
      rw [hi1, hi2]
      refine wpAny_bind (MeetsSeq.EqGives.int x y tx ty prog w _ _ _ _ ?_)
      by_cases he : x = y
      · have hb' : (x == y) = true := by simp [he]
        rw [hb']
        have h : R (.ok (.ret (.bool (pyLe (xs.drop (i + 1)) (ys.drop (i + 1)))))) ⟨hp, g, d, tk, os⟩ := by
          simp only [pyLe] at h
          rw [if_pos he] at h
          exact h
        wp_walk
        rw [hc]
        exact ⟨plainId_quiet MeetsSeq3.plain_eq_loop _, codeAny_builtin MeetsSeq3.entry_eq_loop (by
          rw [Around.under_plainId MeetsSeq3.plain_eq_loop _]
          exact ih (i + 1) (by omega) (by omega) (by omega) prog w A R _ ⟨hl, hb, h⟩)⟩
      · have hb' : (x == y) = false := by simp [he]
        rw [hb']
        have h : R (.ok (.ret (.bool (decide (x ≤ y))))) ⟨hp, g, d, tk, os⟩ := by
          simp only [pyLe] at h
          rw [if_neg he] at h
          exact h
        wp_walk using wpAny_loadPart' hl, wpAny_loadPart' hb
        rw [hi1, hi2]
        refine wpAny_bind ?_
        refine P.le_int ?_
        exact wpAny_pure h
    · have hi2 : ws.toArray[((i : Nat) : Int).toNat]? = none := by simp; omega
      rw [hi1, hi2]
      wp_walk using wpAny_loadPart' hl, wpAny_loadPart' hb
      show R (.ok (.ret (.bool (decide (vs.toArray.size ≤ ws.toArray.size))))) _
      rw [pyLe_end2 (show i < xs.length by omega) (show ys.length ≤ i by omega)] at h
      rw [List.size_toArray, List.size_toArray, lv, lw]
      exact h
theorem le_meets (l b : Addr) (vs ws : List Value) (xs ys : List Int) (hv : IntsAre vs xs) (hw : IntsAre ws ys) (n n2 : Nat) :
    Meets (Builtin.«list.__le__» ⟨[.ref l, .ref b], []⟩)
      (fun _ R s => s.heap.get? l = some { cls := .type "list", dict := none, data := .seq vs.toArray n, slots := #[] } ∧ s.heap.get? b = some { cls := .type "list", dict := none, data := .seq ws.toArray n2, slots := #[] } ∧
        R (.ok (.ret (.bool (pyLe xs ys)))) s) := by
  intro prog w A R s h
  obtain ⟨hp, g, d, tk, os⟩ := s; obtain ⟨hl, hb, h⟩ := h
  have f3 := AutoSeq1.sub_list_list
  wp_walk using wpAny_loadPart' hl, wpAny_loadPart' hb
  exact ⟨plainId_quiet MeetsSeq3.plain_eq_loop _, codeAny_builtin MeetsSeq3.entry_eq_loop (by
    rw [Around.under_plainId MeetsSeq3.plain_eq_loop _]
    exact le_loop l b vs ws xs ys hv hw n n2 _ 0 rfl (Nat.zero_le _) (Nat.zero_le _) prog w A R _ ⟨hl, hb, h⟩)⟩
theorem cmp_le {w : World} {A : Around} {E : Value → Shared → Prop} {s : Shared} {l b : Addr} {vs ws : List Value} {xs ys : List Int} {n n2 : Nat} {Q : Value → Shared → Prop} (hv : IntsAre vs xs) (hw : IntsAre ws ys)
    (hl : s.heap.get? l = some { cls := .type "list", data := .seq vs.toArray n }) (hb : s.heap.get? b = some { cls := .type "list", data := .seq ws.toArray n2 }) (hu : A.units < cLine) (q : Q (.bool (pyLe xs ys)) s) :
    wpAny (model pr w) A (compareOp .LtE (.ref l) (.ref b)) Q E s :=
  wpAny_richCompare_same_room (op := .LtE) (T := "list") ⟨_, hl, rfl⟩ ⟨_, hb, rfl⟩ F.slot_list_le
    (call_meets F.slot_list_le ⟨_, hl, rfl⟩ F.entry_list_le (F.args_list_le_2 _ _) (le_meets l b vs ws xs ys hv hw n n2) ⟨hl, hb, fun e => (nomatch e), q⟩) hu

theorem lt_loop (l b : Addr) (vs ws : List Value) (xs ys : List Int) (hv : IntsAre vs xs) (hw : IntsAre ws ys) (n n2 : Nat) (k : Nat) :
    ∀ i : Nat, vs.length - i = k → i ≤ vs.length → i ≤ ws.length → Meets (Builtin.«list.__eq__.loop» ⟨[.ref l, .ref b, rawInt i, rawInt 0], []⟩)
      (fun _ R s => s.heap.get? l = some { cls := .type "list", dict := none, data := .seq vs.toArray n, slots := #[] } ∧ s.heap.get? b = some { cls := .type "list", dict := none, data := .seq ws.toArray n2, slots := #[] } ∧
        R (.ok (.ret (.bool (pyLt (xs.drop i) (ys.drop i))))) s) := by
  have lv := hv.length
  have lw := hw.length
  induction k with
  | zero =>
    intro i hk h1 h2 prog w A R s h
    obtain ⟨hp, g, d, tk, os⟩ := s; obtain ⟨hl, hb, h⟩ := h
    wp_walk using wpAny_loadPart' hl, wpAny_loadPart' hb
    have hi1 : vs.toArray[((i : Nat) : Int).toNat]? = none := by simp; omega
    rw [hi1]
    wp_walk using wpAny_loadPart' hl, wpAny_loadPart' hb
    show R (.ok (.ret (.bool (decide (vs.toArray.size < ws.toArray.size))))) _
    rw [pyLt_end1 (show xs.length ≤ i by omega) (show i ≤ ys.length by omega) (show i = xs.length by omega)] at h
    rw [List.size_toArray, List.size_toArray, lv, lw]
    exact h
  | succ k ih =>
    intro i hk h1 h2 prog w A R s h
    obtain ⟨hp, g, d, tk, os⟩ := s; obtain ⟨hl, hb, h⟩ := h
    wp_walk using wpAny_loadPart' hl, wpAny_loadPart' hb
    have hlt : i < vs.length := by omega
    obtain ⟨x, tx, hx1, hx2⟩ := ints_at hv hlt
    have hi1 : vs.toArray[((i : Nat) : Int).toNat]? = some (.int x tx) := by rw [Int.toNat_natCast, List.getElem?_toArray]; exact hx1
    by_cases hlt2 : i < ws.length
    · obtain ⟨y, ty, hy1, hy2⟩ := ints_at hw hlt2
      have hi2 : ws.toArray[((i : Nat) : Int).toNat]? = some (.int y ty) := by rw [Int.toNat_natCast, List.getElem?_toArray]; exact hy1
      have hc : ((i : Int) + 1) = ((i + 1 : Nat) : Int) := by push_cast; rfl
      rw [drop_at hx2, drop_at hy2] at h
      rw [hi1, hi2]
      refine wpAny_bind (MeetsSeq.EqGives.int x y tx ty prog w _ _ _ _ ?_)
      by_cases he : x = y
      · have hb' : (x == y) = true := by simp [he]
        rw [hb']
        have h : R (.ok (.ret (.bool (pyLt (xs.drop (i + 1)) (ys.drop (i + 1)))))) ⟨hp, g, d, tk, os⟩ := by
          simp only [pyLt] at h
          rw [if_pos he] at h
          exact h
        wp_walk
        rw [hc]
        exact ⟨plainId_quiet MeetsSeq3.plain_eq_loop _, codeAny_builtin MeetsSeq3.entry_eq_loop (by
          rw [Around.under_plainId MeetsSeq3.plain_eq_loop _]
          exact ih (i + 1) (by omega) (by omega) (by omega) prog w A R _ ⟨hl, hb, h⟩)⟩
      · have hb' : (x == y) = false := by simp [he]
        rw [hb']
        have h : R (.ok (.ret (.bool (decide (x < y))))) ⟨hp, g, d, tk, os⟩ := by
          simp only [pyLt] at h
          rw [if_neg he] at h
          exact h
        wp_walk using wpAny_loadPart' hl, wpAny_loadPart' hb
        rw [hi1, hi2]
        refine wpAny_bind ?_
        refine wpAny_lt_int ?_
        exact wpAny_pure h
    · have hi2 : ws.toArray[((i : Nat) : Int).toNat]? = none := by simp; omega
      rw [hi1, hi2]
      wp_walk using wpAny_loadPart' hl, wpAny_loadPart' hb
      show R (.ok (.ret (.bool (decide (vs.toArray.size < ws.toArray.size))))) _
      rw [pyLt_end2 (show i < xs.length by omega) (show ys.length ≤ i by omega)] at h
      rw [List.size_toArray, List.size_toArray, lv, lw]
      exact h
theorem lt_meets (l b : Addr) (vs ws : List Value) (xs ys : List Int) (hv : IntsAre vs xs) (hw : IntsAre ws ys) (n n2 : Nat) :
    Meets (Builtin.«list.__lt__» ⟨[.ref l, .ref b], []⟩)
      (fun _ R s => s.heap.get? l = some { cls := .type "list", dict := none, data := .seq vs.toArray n, slots := #[] } ∧ s.heap.get? b = some { cls := .type "list", dict := none, data := .seq ws.toArray n2, slots := #[] } ∧
        R (.ok (.ret (.bool (pyLt xs ys)))) s) := by
  intro prog w A R s h
  obtain ⟨hp, g, d, tk, os⟩ := s; obtain ⟨hl, hb, h⟩ := h
  have f3 := AutoSeq1.sub_list_list
  wp_walk using wpAny_loadPart' hl, wpAny_loadPart' hb
  exact ⟨plainId_quiet MeetsSeq3.plain_eq_loop _, codeAny_builtin MeetsSeq3.entry_eq_loop (by
    rw [Around.under_plainId MeetsSeq3.plain_eq_loop _]
    exact lt_loop l b vs ws xs ys hv hw n n2 _ 0 rfl (Nat.zero_le _) (Nat.zero_le _) prog w A R _ ⟨hl, hb, h⟩)⟩
theorem cmp_lt {w : World} {A : Around} {E : Value → Shared → Prop} {s : Shared} {l b : Addr} {vs ws : List Value} {xs ys : List Int} {n n2 : Nat} {Q : Value → Shared → Prop} (hv : IntsAre vs xs) (hw : IntsAre ws ys)
    (hl : s.heap.get? l = some { cls := .type "list", data := .seq vs.toArray n }) (hb : s.heap.get? b = some { cls := .type "list", data := .seq ws.toArray n2 }) (hu : A.units < cLine) (q : Q (.bool (pyLt xs ys)) s) :
    wpAny (model pr w) A (compareOp .Lt (.ref l) (.ref b)) Q E s :=
  wpAny_richCompare_same_room (op := .Lt) (T := "list") ⟨_, hl, rfl⟩ ⟨_, hb, rfl⟩ F.slot_list_lt
    (call_meets F.slot_list_lt ⟨_, hl, rfl⟩ F.entry_list_lt (F.args_list_lt_2 _ _) (lt_meets l b vs ws xs ys hv hw n n2) ⟨hl, hb, fun e => (nomatch e), q⟩) hu
end Mine

namespace Mine
theorem ints_drop {vs : List Value} {xs : List Int} (h : IntsAre vs xs) : ∀ k, IntsAre (vs.drop k) (xs.drop k) := by
  induction h with
  | nil => intro k; simp; exact .nil
  | cons n t h ih =>
    intro k
    cases k with
    | zero => exact .cons n t h
    | succ k => exact ih k
theorem ints_take {vs : List Value} {xs : List Int} (h : IntsAre vs xs) : ∀ k, IntsAre (vs.take k) (xs.take k) := by
  induction h with
  | nil => intro k; simp; exact .nil
  | cons n t h ih =>
    intro k
    cases k with
    | zero => exact .nil
    | succ k => exact .cons n t (ih k)
theorem take_slc {c : Cx} : ∀ (d a : Nat), a + d ≤ c.n → (c.ls.drop a).take d = slc c.x a d
  | 0, a, _ => by simp [slc]
  | d + 1, a, h => by
    have hl : a < c.ls.length := by have : c.n = c.ls.length := rfl; omega
    rw [List.drop_eq_getElem_cons hl, List.take_succ_cons, take_slc d (a + 1) (by omega)]
    show _ = c.x a :: slc c.x (a + 1) d
    rw [x_at (List.getElem?_eq_getElem hl)]
/-- two lists that hold nothing -/
theorem ne_nil_meets (l b : Addr) (n n2 : Nat) : Meets (Builtin.«list.__ne__» ⟨[.ref l, .ref b], []⟩)
      (fun _ R s => s.heap.get? l = some { cls := .type "list", dict := none, data := .seq #[] n, slots := #[] } ∧ s.heap.get? b = some { cls := .type "list", dict := none, data := .seq #[] n2, slots := #[] } ∧
        R (.ok (.ret (.bool false))) s) := by
  intro prog w A R s h
  obtain ⟨hp, g, d, tk, os⟩ := s; obtain ⟨hl, hb, h⟩ := h
  have f3 := AutoSeq1.sub_list_list
  wp_walk using wpAny_loadPart' hl, wpAny_loadPart' hb
  refine ⟨plainId_quiet MeetsSeq3.plain_eq_loop _, codeAny_builtin MeetsSeq3.entry_eq_loop ?_⟩
  rw [Around.under_plainId MeetsSeq3.plain_eq_loop _]
  wp_walk using wpAny_loadPart' hl, wpAny_loadPart' hb
  exact h
theorem cmp_ne_nil {w : World} {A : Around} {E : Value → Shared → Prop} {s : Shared} {l b : Addr} {n n2 : Nat} {Q : Value → Shared → Prop}
    (hl : s.heap.get? l = some { cls := .type "list", data := .seq #[] n }) (hb : s.heap.get? b = some { cls := .type "list", data := .seq #[] n2 }) (hu : A.units < cLine) (q : Q (.bool false) s) :
    wpAny (model pr w) A (compareOp .NotEq (.ref l) (.ref b)) Q E s :=
  wpAny_richCompare_same_room (op := .NotEq) (T := "list") ⟨_, hl, rfl⟩ ⟨_, hb, rfl⟩ F.slot_list_ne
    (call_meets F.slot_list_ne ⟨_, hl, rfl⟩ F.entry_list_ne (F.args_list_ne_2 _ _) (ne_nil_meets l b n n2) ⟨hl, hb, fun e => (nomatch e), q⟩) hu
def forS : Stmt := nth lawB 7
def forB : Stmt → List Stmt
  | .For _ _ b _ _ => b
  | _ => []
def ifT : Stmt → Expr
  | .If t _ _ _ => t
  | _ => .Constant .none 0 ⟨0, 0, 0, 0⟩
def pHit (px : List Int) : Value → Bool
  | .int k _ => pyLe (px.drop k.toNat) px
  | _ => false
theorem keeps_refl (s : Shared) : Keeps s s := ⟨s.heap, s.toks, rfl, fun _ _ e => e⟩
section
variable {c : Cx} {rs : List Nat} {ps : List (Nat × Nat)} {sv nv fv pv : Option Value} {A : Around} {s : Shared}
set_option maxHeartbeats 2000000 in
theorem part_test (O : c.Ok) (R : Room A) (X : (fk c.w.params).In s.heap) {r a d : Nat} (hr : s.heap.PlainList r ((c.lvs.drop a).take d).toArray) (hc : s.heap.IsCell 45 (some (.ref r))) (hd : 1 ≤ d) (had : a + d ≤ c.n) (L : Lyn c.x a d) {Q : Bool → Shared → Prop}
    (q : ∀ (h' : Heap) (tk : Nat), (∀ b o, s.heap.get? b = some o → h'.get? b = some o) → Q false ⟨h', s.gens, s.drawn, tk, s.os⟩) :
    wpAny (model pr c.w) A (isTrue (ifT (nth (forB forS) 0)) lawEnv (eval (ifT (nth (forB forS) 0)) lawEnv)) Q NoE s := by
  have hsm : c.n ≤ 33 := O.small
  have hlv : c.lvs.length = c.n := O.vals.length
  have hlen : ((c.lvs.drop a).take d).toArray.size = d := by simp; omega
  have hints : IntsAre ((c.lvs.drop a).take d) (slc c.x a d) := by
    have := ints_take (ints_drop O.vals a) d
    rw [take_slc d a had] at this
    exact this
  have hu : A.units < cLine := by have := R.u; rw [show cLine = 9900 from rfl]; omega
  refine wpAny_isTrue_Compare1 ?_
  refine wpAny_ListComp_free (pHit (slc c.x a d)) (fun v y => y = v) (cl := [("part", 45)]) (by kernel_rfl) (by decide +kernel) (by kernel_rfl) (by decide +kernel) (by kernel_rfl) ?_
  refine wpAny_Call_ofName (nm_range X lawEnv_kind (by kernel_rfl) rfl rfl ?_)
  refine PySem.callWith_type (by rfl) ?_
  refine Calls.evalArgs_plain ?_
  refine Calls.spliced_cons ?_
  refine wpAny_Constant_int (k := 0) (pos := ⟨0, 0, 0, 0⟩) ?_
  refine Calls.spliced_cons ?_
  refine wpAny_Call_ofName (nm_len X lawEnv_kind (by kernel_rfl) rfl rfl ?_)
  refine Calls.callWith_builtin (by rfl) (Calls.evalArgs_plain (Calls.spliced_cons (wpAny_Name (wpAny_loadName_cell lawEnv_kind (by kernel_rfl) (by kernel_rfl) hc (Calls.spliced_nil ?_)))))
  refine len_list hr.isList (by rw [hlen]; omega) (Calls.spliced_nil (call_range_2 ?_))
  rw [hlen]
  refine wpAny_pyIter_range (IsRange.new ..) (small_one (by omega) (by omega) (by omega) (by omega)) ?_
  have hn : Builtin.Range.rangeSize 1 (d : Int) 1 = ((d - 1 : Nat) : Int) := by rw [rangeSize_one]; split <;> omega
  rw [hn]
  dsimp only
  generalize hH1 : Heap.push s.heap _ = H1
  have k1 : ∀ b o, s.heap.get? b = some o → H1.get? b = some o := hH1 ▸ push_keep _
  have sz1 : H1.objs.size = s.heap.objs.size + 1 := hH1 ▸ Heap.size_push ..
  refine ⟨_, _, _, d - 1, _, _, rfl, Walks.range R.h _ 1 1 (d - 1), by rw [sizeLine_eq]; omega, ?_, ?_, ⟨?_, ?_⟩, ?_⟩
  · have := Heap.get?_push_size H1 (o := { cls := .type "range_iterator", data := .fields #[rawInt 1, rawInt ((d - 1 : Nat) : Int), rawInt 1] }) rfl
    simpa using this
  · intro b hb
    rw [List.mem_singleton.mp hb]
    show H1.objs.size < (H1.push _).objs.size
    rw [Heap.size_push]
    exact Nat.lt_succ_self _
  · intro C i v s₃ m₃ E' hC hv hns hk kp htk
    obtain ⟨t, rfl⟩ := hv
    have kp' : ∀ b o, s.heap.get? b = some o → s₃.heap.get? b = some o := fun b o e => kp b o (by
      intro hb
      rw [List.mem_singleton.mp hb] at e
      have := Heap.lt_size e
      rw [sz1] at this
      exact Nat.lt_irrefl _ (Nat.lt_of_succ_lt this)) (push_keep _ b o (k1 b o e))
    have hr3 : s₃.heap.PlainList r ((c.lvs.drop a).take d).toArray := hr.at fun o e => kp' r o e
    have hc3 : s₃.heap.IsCell 45 (some (.ref r)) := hc.keeps kp'
    refine wpAny_tests_one (wpAny_isTrue_Compare1 ?_)
    refine wpAny_Subscript_list_slice (wpAny_Name (wpAny_loadName_cell (by kernel_rfl) (by kernel_rfl) (by rfl) hc3 ?_))
    refine wpAny_evalPart_some (wpAny_Name (wpAny_loadName_local (by kernel_rfl) (by kernel_rfl) hns hk ?_))
    refine wpAny_evalPart_none ?_
    refine ⟨r, _, _, _, rfl, hr3.isList, by rw [hlen, sizeLine_eq]; omega, .int _ _, .none, ?_⟩
    have e1 : slicePick ((c.lvs.drop a).take d).toArray (some (1 + (i : Int) * 1)) none none = (((c.lvs.drop a).take d).drop (1 + i)).toArray := by
      have := slicePick_from' ((c.lvs.drop a).take d).toArray (1 + i)
      rw [show ((1 + i : Nat) : Int) = 1 + (i : Int) * 1 by omega] at this
      exact this
    rw [e1]
    have k2 : ∀ b ob, s₃.heap.get? b = some ob → ((s₃.heap.push { cls := .type "slice", data := .fields #[.int (1 + (i : Int) * 1) t, .none, .none] }).push { cls := .type "list", data := .seq (((c.lvs.drop a).take d).drop (1 + i)).toArray }).get? b = some ob :=
      fun b ob e => push_keep _ b ob (push_keep _ b ob e)
    refine wpAny_Name (wpAny_loadName_cell (by kernel_rfl) (by kernel_rfl) (by rfl) (hc3.keeps k2) ?_)
    obtain ⟨nr, er⟩ := hr3
    refine cmp_le (n := 0) (n2 := nr) (ints_drop hints (1 + i)) hints ?_ (k2 _ _ er) hu (wpAny_truthy_bool ⟨?_, ⟨_, _, rfl, k2⟩⟩)
    · have := Heap.get?_push_size (s₃.heap.push { cls := .type "slice", data := .fields #[.int (1 + (i : Int) * 1) t, .none, .none] }) (o := { cls := .type "list", data := .seq (((c.lvs.drop a).take d).drop (1 + i)).toArray }) rfl
      rw [Heap.size_push] at this
      exact this
    · show _ = pyLe ((slc c.x a d).drop (1 + (i : Int) * 1).toNat) (slc c.x a d)
      rw [show (1 + (i : Int) * 1).toNat = 1 + i by omega]
  · intro C i v s₃ m₃ E' hC hv hp hns hk kp htk
    exact wpAny_Name (wpAny_loadName_local (by kernel_rfl) (by kernel_rfl) hns hk ⟨rfl, keeps_refl _⟩)
  · intro D h' tk ys vs hD hl hpl hlv2 hP hF kp
    have hf : vs.filter (pHit (slc c.x a d)) = [] := by
      rw [List.filter_eq_nil_iff]
      intro v hv
      obtain ⟨j, hj⟩ := List.getElem?_of_mem hv
      have hjl : j < vs.length := (List.getElem?_eq_some_iff.mp hj).1
      obtain ⟨t, rfl⟩ := hP j v hj
      show ¬ pyLe ((slc c.x a d).drop (1 + (j : Int) * 1).toNat) (slc c.x a d) = true
      rw [show (1 + (j : Int) * 1).toNat = 1 + j by omega, lyn_le L (1 + j) (by omega) (by omega)]
      decide
    rw [hf] at hF
    have hys : ys = #[] := by
      cases hh : ys.toList with
      | nil => exact Array.toList_eq_nil_iff.mp hh
      | cons y l => rw [hh] at hF; cases hF
    subst hys
    obtain ⟨nd, ed⟩ := hpl
    have kp' : ∀ b o, s.heap.get? b = some o → h'.get? b = some o := fun b o e => kp b o (by
      intro hb
      rw [List.mem_singleton.mp hb] at e
      have := Heap.lt_size e
      rw [sz1] at this
      exact Nat.lt_irrefl _ (Nat.lt_of_succ_lt this)) (push_keep _ b o (k1 b o e))
    refine wpAny_List (Calls.spliced_nil ⟨by rw [sizeLine_eq]; simp, ?_⟩)
    refine cmp_ne_nil (n := nd) (n2 := 0) (push_keep _ _ _ ed) (Heap.get?_push_size _ rfl) hu (wpAny_truthy_bool ?_)
    exact q _ _ fun b o e => push_keep _ b o (kp' b o e)
end
end Mine

namespace Mine
theorem oldK_extBut {h₀ h h' : Heap} (K : OldK h₀ h) {a : Addr} (ha : h₀.objs.size ≤ a) (hx : Heap.ExtBut a h h') : OldK h₀ h' := by
  have ne : ∀ b o, h₀.get? b = some o → b ≠ a := fun b o e => Nat.ne_of_lt (Nat.lt_of_lt_of_le (Heap.lt_size e) ha)
  refine ⟨fun b o e => ?_, fun b o e => let ⟨o', ho'⟩ := K.there b o e; ⟨o', hx b o' (ne b o e) ho'⟩⟩
  rcases K.old b o e with x | ⟨t, hc, vs, more, hv, x⟩ | ⟨rfl, hc, ⟨o', es, n, ho', r⟩, z⟩
  · exact .inl (hx b o (ne b o e) x)
  · exact .inr (.inl ⟨t, hc, vs, more, hv, hx b _ (ne b o e) x⟩)
  · exact .inr (.inr ⟨rfl, hc, ⟨o', es, n, hx _ _ (ne _ o e) ho', r⟩, fun key => by rw [OldK.staticOf_congr ((hx _ _ (ne _ o e) ho').trans ho'.symm) key]; exact z key⟩)
section
variable {c : Cx} {rs : List Nat} {ps : List (Nat × Nat)} {h h' : Heap}
theorem GS.extG (O : c.Ok) (I : GS c rs ps h) {a : Nat} (W : Away c rs a) (hx : Heap.ExtBut a h h') (ha : a ≠ 45) : GS c rs ps h' := by
  have w1 := W.low
  have L : ∀ {b : Addr} {its : Array Value}, b ≠ a → h.IsList b its → h'.IsList b its := fun ne ⟨o, ho, r⟩ => ⟨o, hx _ _ ne ho, r⟩
  have Ce : ∀ {b : Addr} {v : Option Value}, b ≠ a → h.IsCell b v → h'.IsCell b v := fun ne ⟨o, ho, r⟩ => ⟨o, hx _ _ ne ho, r⟩
  refine ⟨oldK_extBut I.old (by rw [O.size]; exact leN w1.1) hx, fun b o e => hx b o (neN (by have := fk_low e; omega)) (I.X b o e), fun p hp => hx _ _ (neN (by have := fcl_at p hp; omega)) (I.C p hp), L W.kl I.keys, fun i b e => ?_, L W.ll I.lets, Ce (neN (by omega)) I.cellP,
    I.cellQ.imp fun v q => Ce (neN (by omega)) q, I.parts.extBut hx W.pl, fun i r q h1 h2 => (I.part i r q h1 h2).at fun o e => hx r o (W.rs r (List.mem_of_getElem? h1)) e, I.ne, I.len⟩
  obtain ⟨da, ti, num, h1, h2⟩ := I.key i b e
  exact ⟨da, ti, num, hx b _ (W.krs b (List.mem_of_getElem? e)) h1, h2⟩
end
section
variable {c : Cx} {rs : List Nat} {ps : List (Nat × Nat)} {A : Around}
theorem iter_same {h h' : Heap} {it l : Addr} {k : Nat} {a : Addr} (x : h.IsListIter it l k) (hs : Heap.SameBut a h h') (ne : it ≠ a) : h'.IsListIter it l k := by
  obtain ⟨o, ho, r⟩ := x
  exact ⟨o, (hs.2 it ne).trans ho, r⟩
theorem iter_keep {h h' : Heap} {it l : Addr} {k : Nat} (x : h.IsListIter it l k) (hk : ∀ b o, h.get? b = some o → h'.get? b = some o) : h'.IsListIter it l k := by
  obtain ⟨o, ho, r⟩ := x
  exact ⟨o, hk _ _ ho, r⟩
set_option maxHeartbeats 2000000 in
theorem for_run (O : c.Ok) (R : Room A) {g : Array GenState} {dr : Drawn} {os : OsState} {h : Heap} {tk : Nat} (G : GS c rs ps h) (PIn : PI c.x c.n ps) (hps : ps.length ≤ c.n) {Q : Flow → Shared → Prop}
    (q : ∀ (h' : Heap) (tk' : Nat), GS c rs ps h' → Q .next ⟨h', g, dr, tk', os⟩) : wpAny (model pr c.w) A (exec forS lawEnv) Q NoE ⟨h, g, dr, tk, os⟩ := by
  refine wpAny_For ?_
  refine wpAny_Name (wpAny_loadName_cell lawEnv_kind (by kernel_rfl) (by kernel_rfl) G.cellP ?_)
  refine wpAny_pyIter_list G.parts.isList ?_
  dsimp only
  have W := G.away_new O (Nat.le_refl _)
  have W2 := W.low
  have hN : (h.push { cls := .type "list_iterator", data := .fields #[.ref c.pl, .int 0 0] }).IsListIter h.objs.size c.pl 0 := ⟨_, Heap.get?_push_size _ rfl, rfl, rfl⟩
  have hpl : c.pl < h.objs.size := G.parts.lt
  generalize hNN : h.objs.size = N at W W2 hN hpl
  have hN45 : N ≠ 45 := by have := O.pl; omega
  refine codeAny_forLoop_any (fun m s' => ∃ k h' tk', s' = ⟨h', g, dr, tk', os⟩ ∧ k ≤ rs.length ∧ m = rs.length - k ∧ h'.IsListIter N c.pl k ∧ GS c rs ps h') ?_ rs.length ⟨0, _, _, rfl, Nat.zero_le _, rfl, hN, G.ext (push_keep _)⟩
  rintro m s' ⟨k, h', tk', rfl, hk, rfl, hit, G'⟩
  refine wpAny_mono (E := NoE) ?_ (fun _ _ x => x) (fun _ _ x => x.elim)
  by_cases hkl : k < rs.length
  · have hkp : k < ps.length := by rw [← G'.len]; exact hkl
    have hrk : rs[k]? = some rs[k] := List.getElem?_eq_getElem hkl
    refine wpAny_pyNext_list_item hit G'.parts.isList (x := .ref rs[k]) (by rw [List.getElem?_toArray, List.getElem?_map, hrk]; rfl) fun h2 hit2 hs2 => ?_
    refine wpAny_of_eq (a := ()) (by rfl) ?_
    have G2 := G'.sameG O W hs2 (G'.cellQ.imp fun v x => isCell_same x hs2 (Ne.symm hN45))
    obtain ⟨v0, hv0⟩ := G2.cellQ
    refine wpAny_mono (E := NoE) ?_ (fun _ _ x => x) (fun _ _ x => x.elim)
    refine wpAny_assign_Name (wpAny_storeName_cell lawEnv_kind (by kernel_rfl) (by kernel_rfl) hv0 fun h3 hc3 hs3 => ?_)
    have G3 := G2.sameG O (away_of O G2 (by omega) (by omega)) hs3 ⟨_, hc3⟩
    have hit3 := iter_same hit2 hs3 hN45
    refine wpAny_mono (E := NoE) ?_ (fun _ _ x => x) (fun _ _ x => x.elim)
    obtain ⟨q1, q2, q3⟩ := PIn.lyn ps[k] (List.getElem_mem hkp)
    refine wpAny_execs_cons (wpAny_If (part_test O R G3.X (G3.part k _ _ hrk (List.getElem?_eq_getElem hkp)) hc3 q1 q2 q3 fun h4 tk4 k4 => ?_))
    exact wpAny_execs_nil (wpAny_execs_nil ⟨_, by omega, k + 1, h4, tk4, rfl, hkl, rfl, iter_keep hit3 k4, G3.ext k4⟩)
  · refine wpAny_pyNext_list_end R.h hit G'.parts.isList (by simp; omega) fun h2 he => ?_
    exact wpAny_execs_nil (q h2 _ (G'.extG O W he hN45))
end
end Mine

namespace Mine
theorem eq_nil_meets (l b : Addr) (n n2 : Nat) : Meets (Builtin.«list.__eq__» ⟨[.ref l, .ref b], []⟩)
      (fun _ R s => s.heap.get? l = some { cls := .type "list", dict := none, data := .seq #[] n, slots := #[] } ∧ s.heap.get? b = some { cls := .type "list", dict := none, data := .seq #[] n2, slots := #[] } ∧
        R (.ok (.ret (.bool true))) s) := by
  intro prog w A R s h
  obtain ⟨hp, g, d, tk, os⟩ := s; obtain ⟨hl, hb, h⟩ := h
  have f3 := AutoSeq1.sub_list_list
  wp_walk using wpAny_loadPart' hl, wpAny_loadPart' hb
  refine ⟨plainId_quiet MeetsSeq3.plain_eq_loop _, codeAny_builtin MeetsSeq3.entry_eq_loop ?_⟩
  rw [Around.under_plainId MeetsSeq3.plain_eq_loop _]
  wp_walk using wpAny_loadPart' hl, wpAny_loadPart' hb
  exact h
theorem cmp_eq_nil {w : World} {A : Around} {E : Value → Shared → Prop} {s : Shared} {l b : Addr} {n n2 : Nat} {Q : Value → Shared → Prop}
    (hl : s.heap.get? l = some { cls := .type "list", data := .seq #[] n }) (hb : s.heap.get? b = some { cls := .type "list", data := .seq #[] n2 }) (hu : A.units < cLine) (q : Q (.bool true) s) :
    wpAny (model pr w) A (compareOp .Eq (.ref l) (.ref b)) Q E s :=
  wpAny_richCompare_same_room (op := .Eq) (T := "list") ⟨_, hl, rfl⟩ ⟨_, hb, rfl⟩ F.slot_list_eq
    (call_meets F.slot_list_eq ⟨_, hl, rfl⟩ F.entry_list_eq (F.args_list_eq_2 _ _) (eq_nil_meets l b n n2) ⟨hl, hb, fun e => (nomatch e), q⟩) hu
def retS : Stmt := nth lawB 8
section
variable {c : Cx} {rs : List Nat} {ps : List (Nat × Nat)} {A : Around} {s : Shared}
set_option maxHeartbeats 2000000 in
theorem ret_run (O : c.Ok) (R : Room A) (G : GS c rs ps s.heap) (PIn : PI c.x c.n ps) (hps : ps.length ≤ c.n) {Q : Flow → Shared → Prop}
    (q : ∀ (h' : Heap) (tk : Nat), OldK c.h₀ h' → Q (.ret (.bool true)) ⟨h', s.gens, s.drawn, tk, s.os⟩) :
    wpAny (model pr c.w) A (exec retS lawEnv) Q NoE s := by
  have hsm : c.n ≤ 33 := O.small
  have hu : A.units < cLine := by have := R.u; rw [show cLine = 9900 from rfl]; omega
  have hlen : (rs.map Value.ref).toArray.size = ps.length := by simp [G.len]
  refine wpAny_Return_some (wpAny_Compare1 ?_)
  refine wpAny_ListComp_free (fun _ => false) (fun v y => y = v) (cl := [("parts", 44)]) (by kernel_rfl) (by decide +kernel) (by kernel_rfl) (by decide +kernel) (by kernel_rfl) ?_
  refine wpAny_Call_ofName (nm_range G.X lawEnv_kind (by kernel_rfl) rfl rfl ?_)
  refine PySem.callWith_type (by rfl) ?_
  refine Calls.evalArgs_plain ?_
  refine Calls.spliced_cons ?_
  refine wpAny_Constant_int (k := 0) (pos := ⟨0, 0, 0, 0⟩) ?_
  refine Calls.spliced_cons ?_
  refine wpAny_Call_ofName (nm_len G.X lawEnv_kind (by kernel_rfl) rfl rfl ?_)
  refine Calls.callWith_builtin (by rfl) (Calls.evalArgs_plain (Calls.spliced_cons (wpAny_Name (wpAny_loadName_cell lawEnv_kind (by kernel_rfl) (by kernel_rfl) G.cellP (Calls.spliced_nil ?_)))))
  refine len_list G.parts.isList (by rw [hlen]; omega) (Calls.spliced_nil (call_range_2 ?_))
  rw [hlen]
  refine wpAny_pyIter_range (IsRange.new ..) (small_one (by omega) (by omega) (by omega) (by omega)) ?_
  have hn : Builtin.Range.rangeSize 1 (ps.length : Int) 1 = ((ps.length - 1 : Nat) : Int) := by rw [rangeSize_one]; split <;> omega
  rw [hn]
  dsimp only
  generalize hH1 : Heap.push s.heap _ = H1
  have k1 : ∀ b o, s.heap.get? b = some o → H1.get? b = some o := hH1 ▸ push_keep _
  have sz1 : H1.objs.size = s.heap.objs.size + 1 := hH1 ▸ Heap.size_push ..
  have old : ∀ {h' : Heap}, (∀ b o, b ∉ [H1.objs.size] → (H1.push { cls := .type "range_iterator", data := .fields #[rawInt 1, rawInt ((ps.length - 1 : Nat) : Int), rawInt 1] }).get? b = some o → h'.get? b = some o) → ∀ b o, s.heap.get? b = some o → h'.get? b = some o :=
    fun kp b o e => kp b o (by
      intro hb
      rw [List.mem_singleton.mp hb] at e
      have := Heap.lt_size e
      rw [sz1] at this
      exact Nat.lt_irrefl _ (Nat.lt_of_succ_lt this)) (push_keep _ b o (k1 b o e))
  refine ⟨_, _, _, ps.length - 1, _, _, rfl, (Walks.range R.h _ 1 1 (ps.length - 1)).bound, by rw [sizeLine_eq]; omega, ?_, ?_, ⟨?_, ?_⟩, ?_⟩
  · have := Heap.get?_push_size H1 (o := { cls := .type "range_iterator", data := .fields #[rawInt 1, rawInt ((ps.length - 1 : Nat) : Int), rawInt 1] }) rfl
    simpa using this
  · intro b hb
    rw [List.mem_singleton.mp hb]
    show H1.objs.size < (H1.push _).objs.size
    rw [Heap.size_push]
    exact Nat.lt_succ_self _
  · intro C i v s₃ m₃ E' hC hv hns hk kp htk
    obtain ⟨hi, t, rfl⟩ := hv
    have kp' := old kp
    have G3 := G.ext kp'
    have l1 : i < rs.length := by rw [G.len]; omega
    have l2 : i + 1 < rs.length := by rw [G.len]; omega
    have l3 : i < ps.length := by omega
    have l4 : i + 1 < ps.length := by omega
    refine wpAny_tests_one (wpAny_isTrue_Compare1 ?_)
    refine Subscript_ (wpAny_Name (wpAny_loadName_cell (by kernel_rfl) (by kernel_rfl) (by rfl) G3.cellP ?_))
    refine wpAny_BinOp (wpAny_Name (wpAny_loadName_local (by kernel_rfl) (by kernel_rfl) hns hk ?_))
    refine wpAny_Constant_int (P.sub_int ?_)
    refine item_list G3.parts.isList (by omega) (by omega) (x := .ref rs[i]) ?_ ?_
    · rw [show (1 + (i : Int) * 1 - 1).toNat = i by omega, List.getElem?_toArray, List.getElem?_map, List.getElem?_eq_getElem l1]; rfl
    refine Subscript_ (wpAny_Name (wpAny_loadName_cell (by kernel_rfl) (by kernel_rfl) (by rfl) G3.cellP ?_))
    refine wpAny_Name (wpAny_loadName_local (by kernel_rfl) (by kernel_rfl) hns hk ?_)
    refine item_list G3.parts.isList (by omega) (by omega) (x := .ref rs[i + 1]) ?_ ?_
    · rw [show (1 + (i : Int) * 1).toNat = i + 1 by omega, List.getElem?_toArray, List.getElem?_map, List.getElem?_eq_getElem l2]; rfl
    obtain ⟨n1, e1⟩ := G3.part i _ _ (List.getElem?_eq_getElem l1) (List.getElem?_eq_getElem l3)
    obtain ⟨n2, e2⟩ := G3.part (i + 1) _ _ (List.getElem?_eq_getElem l2) (List.getElem?_eq_getElem l4)
    have hints : ∀ p ∈ ps, IntsAre ((c.lvs.drop p.1).take p.2) (slc c.x p.1 p.2) := fun p hp => by
      have := ints_take (ints_drop O.vals p.1) p.2
      rw [take_slc p.2 p.1 (PIn.lyn p hp).2.1] at this
      exact this
    refine cmp_lt (hints _ (List.getElem_mem l3)) (hints _ (List.getElem_mem l4)) e1 e2 hu (wpAny_truthy_bool ⟨?_, ⟨_, _, rfl, fun _ _ e => e⟩⟩)
    exact PIn.chain i _ _ (List.getElem?_eq_getElem l3) (List.getElem?_eq_getElem l4)
  · intro C i v s₃ m₃ E' hC hv hp hns hk kp htk
    cases hp
  · intro D h' tk ys vs hD hl hpl hlv2 hP hF kp
    have hf : vs.filter (fun _ => false) = [] := by simp
    rw [hf] at hF
    have hys : ys = #[] := by
      cases hh : ys.toList with
      | nil => exact Array.toList_eq_nil_iff.mp hh
      | cons y l => rw [hh] at hF; cases hF
    subst hys
    obtain ⟨nd, ed⟩ := hpl
    refine wpAny_List (Calls.spliced_nil ⟨by rw [sizeLine_eq]; simp, ?_⟩)
    refine cmp_eq_nil (n := nd) (n2 := 0) (push_keep _ _ _ ed) (Heap.get?_push_size _ rfl) hu ?_
    exact q _ _ (G.old.step_keeps fun b o e => push_keep _ b o (old kp b o e))
end
end Mine

namespace Mine
section
theorem min_l {a b : Int} (h : ¬ b < a) : a ≤ a ∧ a ≤ b := ⟨Int.le_refl a, by omega⟩
theorem min_r {a b : Int} (h : b < a) : b ≤ a ∧ b ≤ b := ⟨by omega, Int.le_refl b⟩
set_option hygiene false
local macro_rules | `(tactic| x_close) => `(tactic| (first | exact hQ _ _ _ _ (.inl rfl) (min_l (by assumption)) (mem_keep D) | exact hQ _ _ _ _ (.inr rfl) (min_r (by assumption)) (mem_keep D)))
set_option maxHeartbeats 8000000 in
theorem leaf_min (w : World) (s : Shared) (X : (fk w.params).In s.heap) (a b : Int) (ta tb : Tok) (Q E : Value → Shared → Prop)
    (hQ : ∀ (v : Int) (tv : Tok) (h' : Heap) (t' : Nat), (v = a ∨ v = b) → (v ≤ a ∧ v ≤ b) → (∀ b o, s.heap.get? b = some o → h'.get? b = some o) → Q (.int v tv) ⟨h', s.gens, s.drawn, t', s.os⟩) :
    wpAny (model PySem.Challenge.rw_dp0025_01.prog w) AA (call (.builtin "min") [.int a ta, .int b tb]) Q E s := by
  revert X
  k_fill
  intro X
  x_run
end
end Mine

namespace Mine
theorem push_keep' {h : Heap} (o : Obj) : ∀ b ob, h.get? b = some ob → (h.push o).get? b = some ob := fun _ _ e => Heap.get?_push_of_some o e
def hpFd : FuncData := fdOf (stm 4) "_law_heaps" [] pmL (.ref 34) .none
def hpB : List Stmt := bodyOf hpFd
def hpEnv (L : Addr) : Env := newEnv hpFd.scope L 3 [] (hpFd.qualname ++ ".<locals>.") (some 35) (.ref 34) none 0
structure Room2 (A : Around) : Prop where
  h : A.handled = none
  d : A.depth ≤ 350
  u : A.units ≤ 350
theorem keep_same {g h h' : Heap} {a : Addr} (k : ∀ b o, g.get? b = some o → h.get? b = some o) (ha : g.objs.size ≤ a) (hs : Heap.SameBut a h h') : ∀ b o, g.get? b = some o → h'.get? b = some o :=
  fun b o e => (hs.2 b (Nat.ne_of_lt (Nat.lt_of_lt_of_le (Heap.lt_size e) ha))).trans (k b o e)
theorem keep_ext {g h h' : Heap} {a : Addr} (k : ∀ b o, g.get? b = some o → h.get? b = some o) (ha : g.objs.size ≤ a) (hs : Heap.ExtBut a h h') : ∀ b o, g.get? b = some o → h'.get? b = some o :=
  fun b o e => hs b o (Nat.ne_of_lt (Nat.lt_of_lt_of_le (Heap.lt_size e) ha)) (k b o e)
theorem ints_set {vs : List Value} {xs : List Int} (h : IntsAre vs xs) (n : Int) (t : Tok) : ∀ i, IntsAre (vs.set i (.int n t)) (xs.set i n) := by
  induction h with
  | nil => intro i; exact .nil
  | cons m u h ih =>
    intro i
    cases i with
    | zero => exact .cons n t h
    | succ i => exact .cons m u (ih i)
theorem ints_rep (n : Int) (t : Tok) : ∀ k, IntsAre (List.replicate k (.int n t)) (List.replicate k n)
  | 0 => .nil
  | k + 1 => .cons n t (ints_rep n t k)
theorem fold_rep {v : Value} : ∀ (k : Nat) (acc : Array Value), List.foldl (fun x1 x2 => x1 ++ x2) acc (List.replicate k #[v]) = acc ++ (List.replicate k v).toArray
  | 0, acc => by simp
  | k + 1, acc => by
    rw [List.replicate_succ, List.foldl_cons, fold_rep k]
    rw [List.replicate_succ]
    apply Array.ext'
    simp
/-- the state within the heaps' making: g the heap at its call, L its frame, H its list -/
structure HS (g : Heap) (L H : Nat) (k : Nat) (h : Heap) : Prop where
  keep : ∀ b o, g.get? b = some o → h.get? b = some o
  ns : ∃ m, h.Ns L m ∧ m "script" = some (.ref 41) ∧ m "heaps" = some (.ref H)
  list : ∃ hv hn, h.IsList H (List.toArray hv) ∧ IntsAre hv hn ∧ hn.length = k
section
variable {w : World} {A : Around} {s : Shared} {g : Heap} {L H : Nat} {k : Nat}
theorem HS.same {h h' : Heap} {a : Nat} (I : HS g L H k h) (hs : Heap.SameBut a h h') (h1 : g.objs.size ≤ a) (h2 : L ≠ a) (h3 : H ≠ a) : HS g L H k h' := by
  obtain ⟨m, n1, n2⟩ := I.ns
  obtain ⟨hv, hn, l1, l2⟩ := I.list
  exact ⟨keep_same I.keep h1 hs, ⟨m, n1.sameBut hs h2, n2⟩, ⟨hv, hn, isList_same l1 hs h3, l2⟩⟩
theorem hp_kind : (hpEnv L).scope.kind = .function := by kernel_rfl
theorem hp_for_body (R : Room2 A) (hgL : g.objs.size ≤ L) (hgH : g.objs.size ≤ H) (hLH : L ≠ H) {vs : List Value} {ns : List Int} (hI : IntsAre vs ns) (hl : g.IsList 41 vs.toArray) (hsm : ns.length ≤ 63) (hk : k = min ns.length 30)
    (I : HS g L H k s.heap) {i : Nat} (hi : i < ns.length) {ti : Tok} (hp : ∃ m, s.heap.Ns L m ∧ m "script" = some (.ref 41) ∧ m "heaps" = some (.ref H) ∧ m "place" = some (.int i ti)) {Q : Flow → Shared → Prop}
    (q : ∀ (h' : Heap) (tk : Nat), Heap.SameBut H s.heap h' → HS g L H k h' → Q .next ⟨h', s.gens, s.drawn, tk, s.os⟩) : wpAny (model pr w) A (execs (match nth hpB 1 with | .For _ _ b _ _ => b | _ => []) (hpEnv L)) Q NoE s := by
  obtain ⟨m, n1, n2, n3, n4⟩ := hp
  obtain ⟨hv, hn, l1, l2, l3⟩ := I.list
  have hlen := l2.length
  have hvl := hI.length
  refine wpAny_execs_cons (wpAny_AugAssign_Subscript_any ?_)
  refine wpAny_Name (wpAny_loadName_local hp_kind (by kernel_rfl) n1 n3 ?_)
  refine wpAny_BinOp (wpAny_Name (wpAny_loadName_local hp_kind (by kernel_rfl) n1 n4 ?_))
  refine wpAny_Constant_int (mod_int' (by decide) ?_)
  have e1 : Int.fmod (i : Int) 30 = ((i % 30 : Nat) : Int) := by rw [Int.fmod_eq_emod_of_nonneg _ (by decide)]; omega
  rw [e1]
  have hb : i % 30 < hv.length := by rw [hlen, l3, hk]; omega
  obtain ⟨x, tx, hx1, hx2⟩ := ints_at l2 hb
  refine wpAny_getItem_list l1 (by omega) (by omega) (x := .int x tx) (by rw [Int.toNat_natCast, List.getElem?_toArray]; exact hx1) ?_
  have hi2 : i < vs.length := by omega
  obtain ⟨y, ty, hy1, hy2⟩ := ints_at hI hi2
  have hl' : s.heap.IsList 41 vs.toArray := by obtain ⟨o, ho, r⟩ := hl; exact ⟨o, I.keep _ _ ho, r⟩
  refine Subscript_ ?_
  refine wpAny_Name (wpAny_loadName_local hp_kind (by kernel_rfl) n1 n2 ?_)
  refine wpAny_Name (wpAny_loadName_local hp_kind (by kernel_rfl) n1 n4 ?_)
  refine item_listL hl' (by omega) (by omega) (by rw [Int.toNat_natCast]; exact hy1) ?_
  refine wpAny_iadd_int ?_
  refine wpAny_setItem_list l1 (by omega) (by omega) (by rw [List.size_toArray]; omega) fun h' k1 k2 => ?_
  refine wpAny_execs_nil ?_
  refine q h' _ k2 ⟨keep_same I.keep hgH k2, ⟨m, n1.sameBut k2 hLH, n2, n3⟩, ⟨_, _, ?_, ints_set l2 (x + y) (s.toks + 1 + 1) (i % 30), ?_⟩⟩
  · rw [Int.toNat_natCast, List.setIfInBounds_toArray] at k1
    exact k1
  · rw [List.length_set]; exact l3
theorem hp_for (R : Room2 A) (X : (fk w.params).In g) (hgL : g.objs.size ≤ L) (hgH : g.objs.size ≤ H) (hLH : L ≠ H) {vs : List Value} {ns : List Int} (hI : IntsAre vs ns) (hl : g.IsList 41 vs.toArray) (hsm : ns.length ≤ 63) (hk : k = min ns.length 30)
    (I : HS g L H k s.heap) {Q : Flow → Shared → Prop}
    (q : ∀ (h' : Heap) (tk : Nat), HS g L H k h' → Q .next ⟨h', s.gens, s.drawn, tk, s.os⟩) : wpAny (model pr w) A (exec (nth hpB 1) (hpEnv L)) Q NoE s := by
  obtain ⟨m, n1, n2, n3⟩ := I.ns
  have hvl := hI.length
  have hl' : s.heap.IsList 41 vs.toArray := by obtain ⟨o, ho, r⟩ := hl; exact ⟨o, I.keep _ _ ho, r⟩
  have X' : (fk w.params).In s.heap := X.keeps I.keep
  have hsz : vs.toArray.size = ns.length := by rw [List.size_toArray, hvl]
  have hHs : H < s.heap.objs.size := by obtain ⟨hv, hn, ⟨o, ho, _⟩, _⟩ := I.list; exact Heap.lt_size ho
  have hLs : L < s.heap.objs.size := by obtain ⟨o, _, _, ho, _⟩ := n1; exact Heap.lt_size ho
  refine wpAny_For ?_
  refine wpAny_Call_ofName (nm_range X' hp_kind (by kernel_rfl) rfl rfl ?_)
  refine PySem.callWith_type (by rfl) ?_
  refine Calls.evalArgs_plain ?_
  refine Calls.spliced_cons ?_
  refine wpAny_Call_ofName (nm_len X' hp_kind (by kernel_rfl) rfl rfl ?_)
  refine Calls.callWith_builtin (by rfl) (Calls.evalArgs_plain (Calls.spliced_cons (wpAny_Name (wpAny_loadName_local hp_kind (by kernel_rfl) n1 n2 (Calls.spliced_nil ?_)))))
  refine len_list hl' (by rw [List.size_toArray]; omega) (Calls.spliced_nil (call_range_1 ?_))
  rw [hsz]
  refine wpAny_pyIter_range (IsRange.new ..) (small_one (by omega) (by omega) (by omega) (by omega)) ?_
  have hn : Builtin.Range.rangeSize 0 (ns.length : Int) 1 = (ns.length : Int) := by rw [rangeSize_one]; split <;> omega
  rw [hn]
  dsimp only
  generalize hH1 : Heap.push s.heap _ = H1
  have k1 : ∀ b o, s.heap.get? b = some o → H1.get? b = some o := hH1 ▸ push_keep _
  have sz1 : H1.objs.size = s.heap.objs.size + 1 := hH1 ▸ Heap.size_push ..
  generalize hN : H1.objs.size = N at *
  have hNL : L ≠ N := by omega
  have hNH : H ≠ N := by omega
  have hNg : g.objs.size ≤ N := by omega
  obtain ⟨sh, sg, sd, st, so⟩ := s
  refine codeAny_forLoop_any (fun d s' => ∃ (j : Nat) (h' : Heap) (tk' : Nat), s' = ⟨h', sg, sd, tk', so⟩ ∧ j ≤ ns.length ∧ d = ns.length - j ∧ IsRangeIter h' N j ((ns.length - j : Nat) : Int) 1 ∧ HS g L H k h') ?_ ns.length ⟨0, _, _, rfl, Nat.zero_le _, rfl, ?_, ?_⟩
  · rintro d s' ⟨j, h', tk', rfl, hj, rfl, hit, I'⟩
    by_cases hlt : j < ns.length
    · refine wpAny_pyNext_range_item hit (by omega) fun h2 hit2 hs2 => ?_
      refine wpAny_of_eq (a := ()) (by rfl) ?_
      have I2 := I'.same hs2 hNg hNL hNH
      refine wpAny_mono (E := NoE) ?_ (fun _ _ x => x) (fun _ _ x => x.elim)
      obtain ⟨m2, a1, a2, a3⟩ := I2.ns
      refine wpAny_assign_Name (wpAny_storeName_local (by kernel_rfl) a1 (fun h3 hn3 hs3 => ?_) (by kernel_rfl))
      obtain ⟨m3, n3, b2, b3, b4⟩ : ∃ m, h3.Ns L m ∧ m "script" = some (.ref 41) ∧ m "heaps" = some (.ref H) ∧ m "place" = some (.int j tk') :=
        ⟨_, hn3, (if_neg (ne_str (by kernel_rfl))).trans a2, (if_neg (ne_str (by kernel_rfl))).trans a3, if_pos rfl⟩
      have I3 : HS g L H k h3 := ⟨keep_same I2.keep hgL hs3, ⟨_, n3, b2, b3⟩, I2.list.imp fun hv => Exists.imp fun hn x => ⟨isList_same x.1 hs3 (Ne.symm hLH), x.2⟩⟩
      have hit3 : IsRangeIter h3 N _ _ 1 := (hs3.2 N (Ne.symm hNL)).trans hit2
      refine wpAny_mono (E := NoE) ?_ (fun _ _ x => x) (fun _ _ x => x.elim)
      refine hp_for_body R hgL hgH hLH hI hl hsm hk I3 hlt ⟨_, n3, b2, b3, b4⟩ fun h4 tk4 hs4 I4 => ?_
      refine ⟨_, ?_, j + 1, h4, tk4, rfl, hlt, rfl, ?_, I4⟩
      · omega
      · have := (hs4.2 N (Ne.symm hNH)).trans hit3
        rw [show ((ns.length - (j + 1) : Nat) : Int) = ((ns.length - j : Nat) : Int) - 1 by omega]
        exact this
    · refine wpAny_pyNext_range_end R.h hit (by omega) fun h2 hs2 => ?_
      refine wpAny_execs_nil (q h2 _ ?_)
      obtain ⟨m2, a1, a2, a3⟩ := I'.ns
      exact ⟨keep_ext I'.keep hNg hs2, ⟨m2, a1.extBut hs2 hNL, a2, a3⟩, I'.list.imp fun hv => Exists.imp fun hn x => ⟨x.1.extBut hs2 hNH, x.2⟩⟩
  · subst hN
    exact Heap.get?_push_size H1 rfl
  · have kk := fun b o e => push_keep' (h := H1) { cls := .type "range_iterator", data := .fields #[rawInt 0, rawInt (ns.length : Int), rawInt 1] } b o (k1 b o e)
    exact ⟨fun b o e => kk b o (I.keep b o e), ⟨m, n1.keeps kk, n2, n3⟩, I.list.imp fun hv => Exists.imp fun hn x => ⟨(let ⟨o, ho, r⟩ := x.1; ⟨o, kk _ _ ho, r⟩), x.2⟩⟩
theorem nm_min {env : Env} {Q : Value → Shared → Prop} {E : Value → Shared → Prop} {pos : Pos} (X : (fk w.params).In s.heap) (hk : env.scope.kind = .function) (hx : env.kindOf "min" = some .globalImplicit) (hg : env.globals = 3) (hb : env.builtins = 0) (q : Q (.builtin "min") s) : wpAny (model pr w) A (eval (.Name "min" pos) env) Q E s :=
  Calls.Name_function_global hk hx (Calls.loadGlobal_builtin (hg ▸ main_ns X) (by kernel_rfl) (hb ▸ built_ns X) (by kernel_rfl) q)
set_option maxHeartbeats 2000000 in
theorem hp_first (R : Room2 A) (X : (fk w.params).In g) (hgL : g.objs.size ≤ L) {vs : List Value} {ns : List Int} (hI : IntsAre vs ns) (hl : g.IsList 41 vs.toArray) (hsm : ns.length ≤ 63)
    (hkeep : ∀ b o, g.get? b = some o → s.heap.get? b = some o) {m : Str → Option Value} (n1 : s.heap.Ns L m) (n2 : m "script" = some (.ref 41)) {Q : Flow → Shared → Prop}
    (q : ∀ (H : Nat) (h' : Heap) (tk : Nat), g.objs.size ≤ H → L ≠ H → HS g L H (min ns.length 30) h' → Q .next ⟨h', s.gens, s.drawn, tk, s.os⟩) : wpAny (model pr w) A (exec (nth hpB 0) (hpEnv L)) Q NoE s := by
  have hvl := hI.length
  have hl' : s.heap.IsList 41 vs.toArray := by obtain ⟨o, ho, r⟩ := hl; exact ⟨o, hkeep _ _ ho, r⟩
  have X' : (fk w.params).In s.heap := X.keeps hkeep
  have hsz : vs.toArray.size = ns.length := by rw [List.size_toArray, hvl]
  have hLs : L < s.heap.objs.size := by obtain ⟨o, _, _, ho, _⟩ := n1; exact Heap.lt_size ho
  refine wpAny_Assign_Name ?_
  refine wpAny_BinOp ?_
  refine wpAny_List ?_
  refine Calls.spliced_cons ?_
  refine wpAny_Constant_int (k := 0) (pos := ⟨0, 0, 0, 0⟩) ?_
  refine Calls.spliced_nil ?_
  refine ⟨(by rw [sizeLine_eq, List.length_cons, List.length_nil]; omega), ?_⟩
  dsimp only
  generalize hH1 : Heap.push s.heap _ = H1
  have k1 : ∀ b o, s.heap.get? b = some o → H1.get? b = some o := hH1 ▸ push_keep _
  have c1 := Heap.get?_push_size s.heap (o := { cls := .type "list", data := .seq #[.int 0 s.toks] }) rfl
  rw [show s.heap.push { cls := .type "list", data := .seq #[.int 0 s.toks] } = H1 from hH1] at c1
  have X1 : (fk w.params).In H1 := X'.keeps k1
  have l1 : H1.IsList 41 vs.toArray := by obtain ⟨o, ho, r⟩ := hl'; exact ⟨o, k1 _ _ ho, r⟩
  refine wpAny_Call_ofName (nm_min X1 hp_kind (by kernel_rfl) rfl rfl ?_)
  refine Calls.callWith_builtin (by rfl) ?_
  refine Calls.evalArgs_plain ?_
  refine Calls.spliced_cons ?_
  refine wpAny_Call_ofName (nm_len X1 hp_kind (by kernel_rfl) rfl rfl ?_)
  refine Calls.callWith_builtin (by rfl) (Calls.evalArgs_plain (Calls.spliced_cons (wpAny_Name (wpAny_loadName_local hp_kind (by kernel_rfl) (n1.keeps k1) n2 (Calls.spliced_nil ?_)))))
  refine len_list l1 (by rw [List.size_toArray]; omega) ?_
  refine Calls.spliced_cons ?_
  refine wpAny_Constant_int (k := 0) (pos := ⟨0, 0, 0, 0⟩) ?_
  refine Calls.spliced_nil ?_
  rw [hsz]
  refine in_room R.h (Nat.le_trans R.d (by decide)) (Nat.le_trans R.u (by decide)) (leaf_min w _ X1 _ _ _ _ _ _ fun v tv h2 t2 v1 v2 k2 => ?_)
  have hv : v = ((min ns.length 30 : Nat) : Int) := by omega
  have F2 : Fr g L h2 m := ⟨(n1.keeps k1).keeps k2, fun b o e => k2 b o (k1 b o (hkeep b o e)), hgL⟩
  refine mul_list F2 News.nil (k2 _ _ c1) (by omega) (by omega) (by simp; omega) fun h3 F3 N3 => ?_
  have c3 := (N3 _ (.head _)).1
  have hne : h2.objs.size ≠ L := (N3 _ (.head _)).2.1
  rw [fold_rep] at c3
  have hgH : g.objs.size ≤ h2.objs.size := Nat.le_of_lt (Nat.lt_of_le_of_lt hgL (by obtain ⟨o, _, _, ho, _⟩ := F2.ns; exact Heap.lt_size ho))
  refine wpAny_storeName_local (by kernel_rfl) F3.ns (fun h4 hn4 hs4 => ?_) (by kernel_rfl)
  have c4 := (hs4.2 _ hne).trans c3
  refine q _ h4 _ hgH (Ne.symm hne) ⟨keep_same F3.keep hgL hs4, ⟨_, hn4, (if_neg (ne_str (by kernel_rfl))).trans n2, if_pos rfl⟩, ⟨_, _, ⟨_, c4, rfl, 0, ?_⟩, ints_rep 0 s.toks (min ns.length 30), by simp⟩⟩
  rw [hv]
  simp
theorem hp_call (R : Room2 A) (hA : A.depth ≤ 340 ∧ A.units ≤ 340) (X : (fk w.params).In s.heap) {vs : List Value} {ns : List Int} (hI : IntsAre vs ns) (hl : s.heap.IsList 41 vs.toArray) (hsm : ns.length ≤ 63) {Q : Value → Shared → Prop}
    (q : ∀ (H : Nat) (hv : List Value) (hn : List Int) (h' : Heap) (tk : Nat), s.heap.objs.size ≤ H → (∀ b o, s.heap.get? b = some o → h'.get? b = some o) → h'.IsList H hv.toArray → IntsAre hv hn → hn.length ≤ 30 → Q (.ref H) ⟨h', s.gens, s.drawn, tk, s.os⟩) :
    wpAny (model pr w) A (call (.ref 35) [.ref 41]) Q NoE s := by
  refine wpAny_call ?_
  refine codeAny_call_function (fd := hpFd) (body := hpB) (Nat.lt_of_le_of_lt R.d (by decide)) (X 35 (fnO (stm 4) "_law_heaps" [] pmL (.ref 34) .none) (by kernel_rfl)) rfl (by kernel_rfl) (by kernel_rfl) (by kernel_rfl) ?_ ?_
  · exact ⟨34, codeO "_law_heaps" 209 33 1 3 29 30 (.ref 31) (.ref 32) 33 215 216, _, _, rfl, X 34 _ (by kernel_rfl), rfl, rfl⟩
  refine wpAny_of_eq (a := ([("script", Value.ref 41)] : List (Str × Value))) (by kernel_rfl) ?_
  refine wpAny_newFunctionEnv (by decide +kernel) ?_ (fun h1 n1 s1 => ?_) (by kernel_rfl)
  · intro x hx
    rw [List.mem_singleton.mp hx]
    kernel_rfl
  have kk : ∀ b o, s.heap.get? b = some o → h1.get? b = some o := fun b o e => (s1.2 b (Nat.ne_of_lt (Heap.lt_size e))).trans (push_keep' _ b o e)
  refine ⟨noLimit_of (kk _ _ (X 2 _ (by kernel_rfl))), ?_⟩
  refine codeAny_func ?_
  have R' : Room2 (A.deeper (hpEnv s.heap.objs.size)) := ⟨R.h, by show A.depth + 1 ≤ 350; omega, by show A.units + 3 ≤ 350; omega⟩
  rw [show hpB = [nth hpB 0, nth hpB 1, nth hpB 2] by kernel_rfl]
  refine wpAny_mono (E := NoE) ?_ (fun _ _ x => x) (fun _ _ x => x.elim)
  refine wpAny_execs_cons ?_
  refine hp_first R' X (Nat.le_refl _) hI hl hsm kk n1 (by kernel_rfl) fun H h2 tk2 hH hne I2 => ?_
  refine wpAny_execs_cons ?_
  refine hp_for R' X (Nat.le_refl _) hH hne hI hl hsm rfl I2 fun h3 tk3 I3 => ?_
  obtain ⟨m, a1, a2, a3⟩ := I3.ns
  obtain ⟨hv, hn, b1, b2, b3⟩ := I3.list
  refine wpAny_execs_cons (wpAny_Return_some (wpAny_Name (wpAny_loadName_local hp_kind (by kernel_rfl) a1 a3 ?_)))
  exact q H hv hn h3 _ hH I3.keep b1 b2 (by omega)
end
end Mine

namespace Mine
/-- the state ahead of the loops -/
structure BS (w : World) (hs : Nat → Int) (t : Nat) (h₀ : Heap) (h : Heap) : Prop where
  old : OldK h₀ h
  X : (fk w.params).In h
  C : clsAll hs t h
  make : h.IsCell 43 (some (.ref 113))
  cellP : ∃ v, h.IsCell 44 v
  cellQ : ∃ v, h.IsCell 45 v
section
variable {w : World} {hs : Nat → Int} {t : Nat} {h₀ h h' : Heap} {A : Around} {s : Shared}
theorem BS.ext (I : BS w hs t h₀ h) (k : ∀ b o, h.get? b = some o → h'.get? b = some o) : BS w hs t h₀ h' :=
  ⟨I.old.step_keeps k, I.X.keeps k, fun p hp => k _ _ (I.C p hp), I.make.keeps k, I.cellP.imp fun _ q => q.keeps k, I.cellQ.imp fun _ q => q.keeps k⟩
theorem BS.same42 (I : BS w hs t h₀ h) (hz : h₀.objs.size = 42) (k : Heap.SameBut 42 h h') : BS w hs t h₀ h' :=
  ⟨I.old.step_same (by rw [hz]; exact leN (by omega)) k, fun b o e => (k.2 b (neN (by have := fk_low e; omega))).trans (I.X b o e), fun p hp => (k.2 p.1 (neN (by have := fcl_at p hp; omega))).trans (I.C p hp),
    isCell_same I.make k (neN (by omega)), I.cellP.imp fun _ q => isCell_same q k (neN (by omega)), I.cellQ.imp fun _ q => isCell_same q k (neN (by omega))⟩
theorem BS.big (I : BS w hs t h₀ h) : 115 ≤ h.objs.size := by
  have e := I.C _ (List.mem_of_getElem? (l := fcl hs t) (i := 11) rfl)
  exact Heap.lt_size e
theorem nm_heaps {env : Env} {Q : Value → Shared → Prop} {E : Value → Shared → Prop} {pos : Pos} (X : (fk w.params).In s.heap) (hk : env.scope.kind = .function) (hx : env.kindOf "_law_heaps" = some .globalImplicit) (hg : env.globals = 3) (q : Q (.ref 35) s) : wpAny (model pr w) A (eval (.Name "_law_heaps" pos) env) Q E s :=
  Calls.Name_function_global hk hx (Calls.loadGlobal_global (hg ▸ main_ns X) (by kernel_rfl) q)
theorem ints_app {vs ws : List Value} {xs ys : List Int} (h : IntsAre vs xs) (g : IntsAre ws ys) : IntsAre (vs ++ ws) (xs ++ ys) := by
  induction h with
  | nil => exact g
  | cons n t _ ih => exact .cons n t ih
/-- two lists joined, whatever else their objects bear -/
theorem add_l {l b : Addr} {its its2 : Array Value} {n n2 : Nat} {d d2 : Option Addr} {sl sl2 : Array (Option Value)} {Q : Value → Shared → Prop} {E : Value → Shared → Prop} (hl : s.heap.get? l = some ⟨.type "list", d, .seq its n, sl⟩) (hb : s.heap.get? b = some ⟨.type "list", d2, .seq its2 n2, sl2⟩)
    (hsz : its.size + its2.size ≤ sizeLine) (q : Q (.ref s.heap.objs.size) { s with heap := s.heap.push { cls := .type "list", data := .seq (its ++ its2) } }) : wpAny (model pr w) A (binaryOp .Add (.ref l) (.ref b)) Q E s :=
  concat_meets ⟨_, hl, rfl⟩ ⟨_, hb, rfl⟩ noFill_list_add seq_list_add PySem.F.slot_list_add PySem.F.entry_list_add (PySem.F.args_list_add_2 _ _) (list_addW l b its its2 n n2 d d2 sl sl2 hsz) ⟨hl, hb, q⟩
def numS : Stmt := nth lawB 1
set_option maxHeartbeats 2000000 in
theorem num_run (R : Room A) (hA : A.depth ≤ 340 ∧ A.units ≤ 340) (hz : h₀.objs.size = 42) (I : BS w hs t h₀ s.heap) {vs : List Value} {ns : List Int} (hI : IntsAre vs ns) (hl : s.heap.IsList 41 vs.toArray) (hsm : ns.length ≤ 63)
    {m : Str → Option Value} (n1 : s.heap.Ns 42 m) (n2 : m "script" = some (.ref 41)) {Q : Flow → Shared → Prop}
    (q : ∀ (nl : Nat) (nv : List Value) (nn : List Int) (h' : Heap) (tk : Nat) (m' : Str → Option Value), BS w hs t h₀ h' → nl ≠ 42 → h'.IsList nl nv.toArray → IntsAre nv nn → nn.length ≤ 33 → h'.Ns 42 m' → m' "numbers" = some (.ref nl) → Q .next ⟨h', s.gens, s.drawn, tk, s.os⟩) :
    wpAny (model pr w) A (exec numS lawEnv) Q NoE s := by
  have hbig := I.big
  refine wpAny_Assign_Name ?_
  refine wpAny_BinOp ?_
  refine wpAny_Call_ofName (nm_heaps I.X lawEnv_kind (by kernel_rfl) rfl ?_)
  refine Calls.callWith_function (o := fnO (stm 4) "_law_heaps" [] pmL (.ref 34) .none) (fd := hpFd) ?_
  refine Calls.evalArgs_plain (Calls.spliced_cons (wpAny_Name (wpAny_loadName_local lawEnv_kind (by kernel_rfl) n1 n2 (Calls.spliced_nil ⟨⟨I.X 35 _ (by kernel_rfl), rfl⟩, ?_⟩))))
  refine hp_call ⟨R.h, R.d, R.u⟩ hA I.X hI hl hsm fun H hv hn h1 tk1 hH k1 l1 l2 l3 => ?_
  refine wpAny_List ?_
  refine Calls.spliced_cons ?_
  refine wpAny_Constant_int (k := 0) (pos := ⟨0, 0, 0, 0⟩) ?_
  refine Calls.spliced_cons ?_
  refine wpAny_Constant_int (k := 0) (pos := ⟨0, 0, 0, 0⟩) ?_
  refine Calls.spliced_cons ?_
  refine wpAny_Constant_int (k := 0) (pos := ⟨0, 0, 0, 0⟩) ?_
  refine Calls.spliced_nil ?_
  refine ⟨(by rw [sizeLine_eq]; simp), ?_⟩
  dsimp only
  have l4 := l2.length
  have hH2 : H < h1.objs.size := by obtain ⟨o, ho, _⟩ := l1; exact Heap.lt_size ho
  have I1 := I.ext k1
  have hb1 := I1.big
  generalize hK : Heap.push h1 _ = K
  have k2 : ∀ b o, h1.get? b = some o → K.get? b = some o := hK ▸ push_keep _
  have k3 : K.get? h1.objs.size = some _ := hK ▸ Heap.get?_push_size h1 rfl
  obtain ⟨⟨cls, dd, data, sl⟩, ho, hc, n, hd⟩ := l1
  dsimp only at hc hd
  subst hc hd
  refine add_l (k2 _ _ ho) k3 (by rw [sizeLine_eq]; simp; omega) ?_
  rw [show hv.toArray ++ [Value.int 0 tk1, .int 0 (tk1 + 1), .int 1 (tk1 + 1 + 1)].toArray = (hv ++ [Value.int 0 tk1, .int 0 (tk1 + 1), .int 1 (tk1 + 1 + 1)]).toArray by simp]
  dsimp only
  have I2 := (I1.ext k2).ext (push_keep' { cls := .type "list", data := .seq (hv ++ [Value.int 0 tk1, .int 0 (tk1 + 1), .int 1 (tk1 + 1 + 1)]).toArray })
  have n3 := ((n1.keeps k1).keeps k2).keeps (push_keep' { cls := .type "list", data := .seq (hv ++ [Value.int 0 tk1, .int 0 (tk1 + 1), .int 1 (tk1 + 1 + 1)]).toArray })
  have hbK := (I1.ext k2).big
  refine wpAny_storeName_local (by kernel_rfl) n3 (fun h4 hn4 hs4 => ?_) (by kernel_rfl)
  refine q K.objs.size _ (hn ++ [0, 0, 1]) h4 _ _ (I2.same42 hz hs4) (by omega) (isList_same ⟨_, Heap.get?_push_size K rfl, rfl, 0, rfl⟩ hs4 (show K.objs.size ≠ 42 from neN (by omega))) (ints_app l2 (.cons 0 _ (.cons 0 _ (.cons 1 _ .nil)))) (by simp; omega) hn4 (if_pos rfl)
end
end Mine

namespace Mine
def kF (t : Nat) : Frag := [(nat_lit 113, clsO t)]
theorem kF_keep (t : Nat) : keepIn (kF t) (.ref 113) = true := by kernel_rfl
theorem kF_in {hs : Nat → Int} {t : Nat} {h : Heap} (C : clsAll hs t h) : (kF t).In h := by
  intro a o e
  unfold kF at e
  rw [List.lookup_cons] at e
  cases q : (a == nat_lit 113) with
  | true =>
    rw [q] at e
    have : a = 113 := by simpa using q
    cases e
    rw [this]; exact C _ (List.mem_of_getElem? (i := 10) rfl)
  | false => rw [q] at e; cases e
/-- `y = [elt for x in iter]`, left to its loop -/
theorem assign_comp {prog : Program} {w : World} {A : Around} {E : Value → Shared → Prop} {env : Env} {s : Shared} {elt iter : Expr} {x y : Str} {px py : Pos} {ifs : List Expr} {scope : Scope} {cl : List (Str × Addr)} {pos spos : Pos} {Q : Flow → Shared → Prop}
    (hsw : swapsWith (.ListComp elt [⟨.Name x px, iter, ifs, 0⟩] scope pos) (some (.Name y py)) spos.line env = pure true)
    (hclos : closureFor scope env = pure cl) (hkind : scope.kind = .function)
    (hnames : ∀ z ∈ scope.names, z.2 = .local → scope.names.lookup z.1 = some .local)
    (h : wpAny (model prog w) A (eval iter env) (fun xv s₁ => wpAny (model prog w) A (pyIter xv) (fun it s₂ => wpAny (model prog w) A (newList []) (fun acc s₃ =>
      wpAny (model prog w) A (newFunctionEnv scope env.globals cl [] env.qual none .none (some env)) (fun cenv s₄ =>
        codeAny (model prog w) A (.compStart (.ListComp elt [⟨.Name x px, iter, ifs, 0⟩] scope pos) 0 it acc { cenv with scope := relabel scope env }) (compPost (model prog w) A E (some (assign (.Name y py) env)) (fun _ s' => Q .next s') acc cenv.locals) s₄) E s₃) E s₂) E s₁) E s)
    (hs : ∀ x, foldedSetIterable iter env x = pure x := by intro _; rfl) :
    wpAny (model prog w) A (exec (.Assign [.Name y py] (.ListComp elt [⟨.Name x px, iter, ifs, 0⟩] scope pos) spos) env) Q E s := by
  rw [exec_Assign_Name_used _ _ _ _ hsw]
  refine wpAny_bind (wpAny_standAt (wpAny_bind ?_))
  show wpAny _ A (do let _ ← comprehension (.ListComp elt [⟨.Name x px, iter, ifs, 0⟩] scope pos) scope env _ (newList []) false (eval iter env) (some (assign (.Name y py) env))) _ _ s
  exact wpAny_bind (wpAny_mono (wpAny_comprehension_free (use := some (assign (.Name y py) env)) (Q := fun _ s' => Q .next s') rfl hs hclos hkind hnames h) (fun _ s' hq => wpAny_pure (wpAny_pure hq)) fun _ _ e => e)
/-- the state within the keys' making: the numbers' list nl, its iterator N, the new list D, the comprehension's frame C -/
structure KI (w : World) (hs : Nat → Int) (t : Nat) (h₀ : Heap) (m : Str → Option Value) (nl N D C : Nat) (nv : List Value) (nn : List Int) (krs : List Nat) (h : Heap) : Prop where
  B : BS w hs t h₀ h
  ns : h.Ns 42 m
  nums : h.IsList nl nv.toArray
  acc : h.IsList D (krs.map Value.ref).toArray
  fr : ∃ m', h.Ns C m'
  key : ∀ (i a : Nat), krs[i]? = some a → ∃ (da : Addr) (ti : Tok) (num : Int), h.get? a = some (keyO num ti da) ∧ nn[i]? = some num
  far : ∀ a ∈ krs, (a ≠ 42 ∧ a ≠ 43 ∧ a ≠ 45) ∧ a ≠ N ∧ a ≠ D ∧ a ≠ C
section
variable {w : World} {hs : Nat → Int} {t : Nat} {h₀ h h' : Heap} {m : Str → Option Value} {nl N D C : Nat} {nv : List Value} {nn : List Int} {krs : List Nat} {A : Around} {s : Shared}
theorem BS.sameHi (I : BS w hs t h₀ h) (hz : h₀.objs.size = 42) {a : Nat} (ha : 115 ≤ a) (k : Heap.SameBut a h h') : BS w hs t h₀ h' :=
  ⟨I.old.step_same (by rw [hz]; exact leN (by omega)) k, fun b o e => (k.2 b (neN (by have := fk_low e; omega))).trans (I.X b o e), fun p hp => (k.2 p.1 (neN (by have := fcl_at p hp; omega))).trans (I.C p hp),
    isCell_same I.make k (neN (by omega)), I.cellP.imp fun _ q => isCell_same q k (neN (by omega)), I.cellQ.imp fun _ q => isCell_same q k (neN (by omega))⟩
theorem BS.extHi (I : BS w hs t h₀ h) (hz : h₀.objs.size = 42) {a : Nat} (ha : 115 ≤ a) (k : Heap.ExtBut a h h') : BS w hs t h₀ h' := by
  have K : ∀ b o, (b : Nat) < 115 → h.get? b = some o → h'.get? b = some o := fun b o hb e => k b o (neN (by omega)) e
  have L : ∀ (b : Nat) v, b < 115 → h.IsCell b v → h'.IsCell b v := fun b v hb ⟨o, ho, r⟩ => ⟨o, K _ _ hb ho, r⟩
  exact ⟨oldK_extBut I.old (by rw [hz]; exact leN (by omega)) k, fun b o e => K b o (by have := fk_low e; omega) (I.X b o e), fun p hp => K _ _ (by have := fcl_at p hp; omega) (I.C p hp),
    L _ _ (by omega) I.make, I.cellP.imp fun _ q => L _ _ (by omega) q, I.cellQ.imp fun _ q => L _ _ (by omega) q⟩
structure Ad (nl N D C : Nat) : Prop where
  n : 115 ≤ N
  d : 115 ≤ D
  c : 115 ≤ C
  nd : N ≠ D
  nc : N ≠ C
  dc : D ≠ C
  ln : nl ≠ N
  ld : nl ≠ D
  lc : nl ≠ C
def keyS : Stmt := nth lawB 2
def eltOf (s : Stmt) : Expr := match s with
  | .Assign _ (.ListComp e _ _ _) _ => e
  | _ => .Constant .none 0 ⟨0, 0, 0, 0⟩
def scOf (s : Stmt) : Scope := match s with
  | .Assign _ (.ListComp _ _ sc _) _ => sc
  | _ => lawEnv.scope
def kEnv (C : Nat) : Env := compEnvC (scOf keyS) [("make", 43)] C lawEnv
theorem key_elt (R : Room A) (B : BS w hs t h₀ s.heap) {m' : Str → Option Value} (hn : s.heap.Ns C m') {n : Int} {tn : Tok} (hx : m' "x" = some (.int n tn)) {Q : Value → Shared → Prop}
    (q : ∀ (a da : Addr) (h' : Heap) (t' : Nat), (∀ b o, s.heap.get? b = some o → h'.get? b = some o) → s.heap.get? a = none → h'.get? a = some (keyO n tn da) → Q (.ref a) ⟨h', s.gens, s.drawn, t', s.os⟩) :
    wpAny (model pr w) A (eval (eltOf keyS) (kEnv C)) Q NoE s := by
  refine wpAny_Call_ofName (wpAny_Name (wpAny_loadName_cell (by kernel_rfl) (by kernel_rfl) (by rfl) B.make ?_))
  refine callWith_K (kF_in B.C) (kF_keep t) ?_
  refine Calls.spliced_cons ?_
  refine wpAny_Name (wpAny_loadName_local (by kernel_rfl) (by kernel_rfl) hn hx ?_)
  refine Calls.spliced_nil ⟨kF_in B.C, ?_⟩
  exact in_room R.h (by have := R.d; omega) (by have := R.u; omega) (leaf_make w s B.X hs t B.C n tn Q NoE q)
theorem KI.ext (K : KI w hs t h₀ m nl N D C nv nn krs h) (k : ∀ b o, h.get? b = some o → h'.get? b = some o) : KI w hs t h₀ m nl N D C nv nn krs h' := by
  have L : ∀ {b : Addr} {its : Array Value}, h.IsList b its → h'.IsList b its := fun ⟨o, ho, r⟩ => ⟨o, k _ _ ho, r⟩
  refine ⟨K.B.ext k, K.ns.keeps k, L K.nums, L K.acc, K.fr.imp fun _ q => q.keeps k, fun i a e => ?_, K.far⟩
  obtain ⟨da, ti, num, h1, h2⟩ := K.key i a e
  exact ⟨da, ti, num, k _ _ h1, h2⟩
theorem KI.sameN (hz : h₀.objs.size = 42) (Z : Ad nl N D C) (K : KI w hs t h₀ m nl N D C nv nn krs h) (k : Heap.SameBut N h h') : KI w hs t h₀ m nl N D C nv nn krs h' := by
  have z := Z.n
  refine ⟨K.B.sameHi hz Z.n k, K.ns.sameBut k (neN (by omega)), isList_same K.nums k Z.ln, isList_same K.acc k (Ne.symm Z.nd), K.fr.imp fun _ q => q.sameBut k (Ne.symm Z.nc), fun i a e => ?_, K.far⟩
  obtain ⟨da, ti, num, h1, h2⟩ := K.key i a e
  exact ⟨da, ti, num, (k.2 a (K.far a (List.mem_of_getElem? e)).2.1).trans h1, h2⟩
theorem KI.sameC (hz : h₀.objs.size = 42) (Z : Ad nl N D C) (K : KI w hs t h₀ m nl N D C nv nn krs h) (k : Heap.SameBut C h h') (hn : ∃ m', h'.Ns C m') : KI w hs t h₀ m nl N D C nv nn krs h' := by
  have z := Z.c
  refine ⟨K.B.sameHi hz Z.c k, K.ns.sameBut k (neN (by omega)), isList_same K.nums k Z.lc, isList_same K.acc k Z.dc, hn, fun i a e => ?_, K.far⟩
  obtain ⟨da, ti, num, h1, h2⟩ := K.key i a e
  exact ⟨da, ti, num, (k.2 a (K.far a (List.mem_of_getElem? e)).2.2.2).trans h1, h2⟩
theorem KI.app (hz : h₀.objs.size = 42) (Z : Ad nl N D C) (K : KI w hs t h₀ m nl N D C nv nn krs h) {a : Nat} {da : Addr} {ti : Tok} {num : Int} (hk : h.get? a = some (keyO num ti da)) (hnum : nn[krs.length]? = some num) (hfar : (a ≠ 42 ∧ a ≠ 43 ∧ a ≠ 45) ∧ a ≠ N ∧ a ≠ D ∧ a ≠ C)
    (k : Heap.SameBut D h h') (hl : h'.IsList D ((krs ++ [a]).map Value.ref).toArray) : KI w hs t h₀ m nl N D C nv nn (krs ++ [a]) h' := by
  have z := Z.d
  refine ⟨K.B.sameHi hz Z.d k, K.ns.sameBut k (neN (by omega)), isList_same K.nums k Z.ld, hl, K.fr.imp fun _ q => q.sameBut k (Ne.symm Z.dc), fun i b e => ?_, fun b hb => ?_⟩
  · by_cases hi : i < krs.length
    · rw [List.getElem?_append_left hi] at e
      obtain ⟨da, ti, num, h1, h2⟩ := K.key i b e
      exact ⟨da, ti, num, (k.2 b (K.far b (List.mem_of_getElem? e)).2.2.1).trans h1, h2⟩
    · by_cases hi2 : i = krs.length
      · subst hi2
        rw [List.getElem?_append_right (Nat.le_refl _), Nat.sub_self] at e
        cases e
        exact ⟨da, ti, num, (k.2 a hfar.2.2.1).trans hk, hnum⟩
      · rw [List.getElem?_eq_none (by simp; omega)] at e; cases e
  · rcases List.mem_append.mp hb with hb | hb
    · exact K.far b hb
    · rw [List.mem_singleton.mp hb]; exact hfar
theorem KI.extN (hz : h₀.objs.size = 42) (Z : Ad nl N D C) (K : KI w hs t h₀ m nl N D C nv nn krs h) (k : Heap.ExtBut N h h') : KI w hs t h₀ m nl N D C nv nn krs h' := by
  have z := Z.n
  refine ⟨K.B.extHi hz Z.n k, K.ns.extBut k (neN (by omega)), K.nums.extBut k Z.ln, K.acc.extBut k (Ne.symm Z.nd), K.fr.imp fun _ q => q.extBut k (Ne.symm Z.nc), fun i a e => ?_, K.far⟩
  obtain ⟨da, ti, num, h1, h2⟩ := K.key i a e
  exact ⟨da, ti, num, k a _ (K.far a (List.mem_of_getElem? e)).2.1 h1, h2⟩
def valOf (s : Stmt) : Expr := match s with
  | .Assign _ v _ => v
  | _ => .Constant .none 0 ⟨0, 0, 0, 0⟩
set_option maxHeartbeats 2000000 in
theorem key_loop (R : Room A) (hz : h₀.objs.size = 42) (Z : Ad nl N D C) (hI : IntsAre nv nn) (hsm : nn.length ≤ 33) {g : Array GenState} {dr : Drawn} {os : OsState} {tk : Nat} (K0 : KI w hs t h₀ m nl N D C nv nn [] h) (hit : h.IsListIter N nl 0) {Rr : Result → Shared → Prop}
    (q : ∀ (krs : List Nat) (h' : Heap) (tk' : Nat), krs.length = nn.length → KI w hs t h₀ m nl N D C nv nn krs h' → Rr (.ok .next) ⟨h', g, dr, tk', os⟩) :
    codeAny (model pr w) A (.compLoop (valOf keyS) 0 (.ref N) (.ref D) (kEnv C)) Rr ⟨h, g, dr, tk, os⟩ := by
  have hlen := hI.length
  refine codeAny_compLoop_list (fun d s' => ∃ (krs : List Nat) (h' : Heap) (tk' : Nat), s' = ⟨h', g, dr, tk', os⟩ ∧ krs.length ≤ nn.length ∧ d = nn.length - krs.length ∧ h'.IsListIter N nl krs.length ∧ KI w hs t h₀ m nl N D C nv nn krs h') ?_ nn.length ⟨[], h, tk, rfl, Nat.zero_le _, rfl, hit, K0⟩
  rintro d s' ⟨krs, h', tk', rfl, hk, rfl, hit', K⟩
  refine wpAny_mono (E := NoE) ?_ (fun _ _ x => x) (fun _ _ x => x.elim)
  by_cases hlt : krs.length < nn.length
  · obtain ⟨n, tn, e1, e2⟩ := ints_at hI (i := krs.length) (by omega)
    refine wpAny_pyNext_list_item hit' K.nums (x := .int n tn) (by rw [List.getElem?_toArray]; exact e1) fun h2 hit2 hs2 => ?_
    have K2 := K.sameN hz Z hs2
    obtain ⟨m2, hn2⟩ := K2.fr
    refine wpAny_mono (E := NoE) ?_ (fun _ _ x => x) (fun _ _ x => x.elim)
    refine wpAny_assign_Name (wpAny_storeName_local (by kernel_rfl) hn2 (fun h3 hn3 hs3 => ?_) (by kernel_rfl))
    have K3 := K2.sameC hz Z hs3 ⟨_, hn3⟩
    have hit3 := iter_same hit2 hs3 Z.nc
    refine wpAny_mono (E := NoE) ?_ (fun _ _ x => x) (fun _ _ x => x.elim)
    refine key_elt R K3.B hn3 (if_pos rfl) fun a da h4 t4 k4 hnone hka => ?_
    have K4 := K3.ext k4
    have ne : ∀ {b : Addr} {o : Obj}, h3.get? b = some o → a ≠ b := fun {b o} e e2 => by rw [e2] at hnone; rw [hnone] at e; cases e
    have hfar : (a ≠ 42 ∧ a ≠ 43 ∧ a ≠ 45) ∧ a ≠ N ∧ a ≠ D ∧ a ≠ C := by
      refine ⟨⟨?_, ?_, ?_⟩, ?_, ?_, ?_⟩
      · obtain ⟨o, _, _, ho, _⟩ := K3.ns; exact ne ho
      · obtain ⟨o, ho, _⟩ := K3.B.make; exact ne ho
      · obtain ⟨v, o, ho, _⟩ := K3.B.cellQ; exact ne ho
      · obtain ⟨o, ho, _⟩ := hit3; exact ne ho
      · obtain ⟨o, ho, _⟩ := K3.acc; exact ne ho
      · obtain ⟨m', o, _, _, ho, _⟩ := K3.fr; exact ne ho
    refine wpAny_mono (E := NoE) ?_ (fun _ _ x => x) (fun _ _ x => x.elim)
    refine wpAny_list_append K4.acc (fun h5 hl5 hs5 => ?_) (by rw [sizeLine_eq]; simp; omega)
    have hit5 := iter_same (iter_keep hit3 k4) hs5 Z.nd
    refine ⟨nn.length - (krs.length + 1), by omega, krs ++ [a], h5, _, rfl, by simp; omega, by simp, by simpa using hit5, K4.app hz Z hka e2 hfar hs5 ?_⟩
    rw [show ((krs ++ [a]).map Value.ref).toArray = (krs.map Value.ref).toArray.push (.ref a) by simp]
    exact hl5
  · refine wpAny_pyNext_list_end R.h hit' K.nums (by simp; omega) fun h2 he => ?_
    exact q krs h2 _ (by omega) (K.extN hz Z he)
set_option maxHeartbeats 2000000 in
theorem keys_run (R : Room A) (hz : h₀.objs.size = 42) (hI : IntsAre nv nn) (hsm : nn.length ≤ 33) (B : BS w hs t h₀ s.heap) (hnl : nl ≠ 42) (hl : s.heap.IsList nl nv.toArray) (hn : s.heap.Ns 42 m) (hm : m "numbers" = some (.ref nl)) {Q : Flow → Shared → Prop}
    (q : ∀ (kl : Nat) (krs : List Nat) (h' : Heap) (tk' : Nat) (m' : Str → Option Value), krs.length = nn.length → BS w hs t h₀ h' → h'.IsList nl nv.toArray → h'.Ns 42 m' → m' "numbers" = some (.ref nl) → m' "keys" = some (.ref kl) →
      h'.IsList kl (krs.map Value.ref).toArray → kl ≠ 42 ∧ kl ≠ 43 ∧ kl ≠ 45 → (∀ (i a : Nat), krs[i]? = some a → ∃ (da : Addr) (ti : Tok) (num : Int), h'.get? a = some (keyO num ti da) ∧ nn[i]? = some num) → (∀ a ∈ krs, a ≠ 42 ∧ a ≠ 43 ∧ a ≠ 45) → Q .next ⟨h', s.gens, s.drawn, tk', s.os⟩) :
    wpAny (model pr w) A (exec keyS lawEnv) Q NoE s := by
  have hbig := B.big
  have hnls : nl < s.heap.objs.size := by obtain ⟨o, ho, _⟩ := hl; exact Heap.lt_size ho
  refine assign_comp (cl := [("make", 43)]) (by kernel_rfl) (by kernel_rfl) (by kernel_rfl) (by decide +kernel) ?_
  refine wpAny_Name (wpAny_loadName_local lawEnv_kind (by kernel_rfl) hn hm ?_)
  refine wpAny_pyIter_list hl ?_
  refine wpAny_newList ?_
  refine wpAny_newFunctionEnv (by decide +kernel) (by intro y hy; simp at hy) (fun h1 hns1 hsb1 => ?_) (by kernel_rfl)
  dsimp only at hns1 hsb1 ⊢
  obtain ⟨sh, sg, sd, st, so⟩ := s
  dsimp only at *
  generalize hH1 : Heap.push sh _ = H1 at *
  generalize hH2 : Heap.push H1 _ = H2 at *
  have s1 : H1.objs.size = sh.objs.size + 1 := hH1 ▸ Heap.size_push ..
  have s2 : H2.objs.size = H1.objs.size + 1 := hH2 ▸ Heap.size_push ..
  have k1 : ∀ b o, sh.get? b = some o → H1.get? b = some o := hH1 ▸ push_keep _
  have k2 : ∀ b o, H1.get? b = some o → H2.get? b = some o := hH2 ▸ push_keep _
  have k3 : ∀ b o, H2.get? b = some o → h1.get? b = some o := fun b o e => (hsb1.2 b (Nat.ne_of_lt (Heap.lt_size e))).trans (push_keep' _ b o e)
  have c1 : H1.IsListIter sh.objs.size nl 0 := ⟨_, hH1 ▸ Heap.get?_push_size sh rfl, rfl, rfl⟩
  have c2 : H2.IsList H1.objs.size #[] := ⟨_, hH2 ▸ Heap.get?_push_size H1 rfl, rfl, 0, rfl⟩
  have Z : Ad nl sh.objs.size H1.objs.size H2.objs.size := ⟨by omega, by omega, by omega, by omega, by omega, by omega, by omega, by omega, by omega⟩
  have kk : ∀ b o, sh.get? b = some o → h1.get? b = some o := fun b o e => k3 b o (k2 b o (k1 b o e))
  have K0 : KI w hs t h₀ m nl sh.objs.size H1.objs.size H2.objs.size nv nn [] h1 :=
    ⟨B.ext kk, hn.keeps kk, (let ⟨o, ho, r⟩ := hl; ⟨o, kk _ _ ho, r⟩), (let ⟨o, ho, r⟩ := c2; ⟨o, k3 _ _ ho, r⟩), ⟨_, hns1⟩, fun i a e => (by simp at e), fun a ha => (by simp at ha)⟩
  have it0 : h1.IsListIter sh.objs.size nl 0 := iter_keep (iter_keep c1 k2) k3
  have H : ∀ Rr : Result → Shared → Prop, (∀ (krs : List Nat) (h' : Heap) (tk' : Nat), krs.length = nn.length → KI w hs t h₀ m nl sh.objs.size H1.objs.size H2.objs.size nv nn krs h' → Rr (.ok .next) ⟨h', sg, sd, tk', so⟩) →
    codeAny (model pr w) A (.compLoop (valOf keyS) 0 (.ref sh.objs.size) (.ref H1.objs.size) (kEnv H2.objs.size)) Rr ⟨h1, sg, sd, st + ([] : List (Str × Value)).length, so⟩ := fun Rr => key_loop R hz Z hI hsm K0 it0
  refine codeAny_compStart_list (H _ ?_) ((Walks.list R.h _ nl Z.ln nv.toArray).self 0 _ _ _ ⟨it0, K0.nums⟩ (H _ ?_))
  all_goals
    intro krs h2 tk2 hkl K2
    refine wpAny_assign_Name (wpAny_storeName_local (by kernel_rfl) K2.ns (fun h3 hn3 hs3 => ?_) (by kernel_rfl))
    obtain ⟨m2, hc2⟩ := K2.fr
    refine ⟨m2, hc2.sameBut hs3 (show H2.objs.size ≠ 42 from neN (by omega)), fun h4 hs4 => ?_⟩
    have ne1 : H1.objs.size ≠ 42 := neN (by omega)
    refine q H1.objs.size krs h4 _ _ hkl ((K2.B.same42 hz hs3).sameHi hz Z.c hs4) (isList_same (isList_same K2.nums hs3 hnl) hs4 Z.lc) (hn3.sameBut hs4 (show (42 : Nat) ≠ H2.objs.size from neN (by omega))) ((if_neg (ne_str (by kernel_rfl))).trans hm) (if_pos rfl)
      (isList_same (isList_same K2.acc hs3 ne1) hs4 Z.dc) (by omega) (fun i a e => ?_) (fun a ha => (K2.far a ha).1)
    obtain ⟨da, ti, num, e1, e2⟩ := K2.key i a e
    have f := K2.far a (List.mem_of_getElem? e)
    exact ⟨da, ti, num, (hs4.2 a f.2.2.2).trans ((hs3.2 a f.1.1).trans e1), e2⟩
end
end Mine

namespace Mine
def Md3 (v y : Value) : Prop := ∃ (n : Int) (t u : Tok), v = .int n t ∧ y = .int (Int.fmod n 3) u
theorem ints_md3 {vs ys : List Value} (P : Paired Md3 vs ys) : ∀ {xs : List Int}, IntsAre vs xs → IntsAre ys (xs.map fun n => Int.fmod n 3) := by
  induction P with
  | nil => intro xs h; cases h; exact .nil
  | cons f _ ih =>
    intro xs h
    obtain ⟨n, t, u, rfl, rfl⟩ := f
    cases h with
    | cons m u' h => exact .cons _ _ (ih h)
theorem list_same {α : Type} {xs ys : List α} (hl : xs.length = ys.length) (h : ∀ (j : Nat) (v : α), xs[j]? = some v → ys[j]? = some v) : xs = ys := by
  apply List.ext_getElem?
  intro j
  cases e : xs[j]? with
  | some v => exact (h j v e).symm
  | none => rw [List.getElem?_eq_none_iff] at e; exact (List.getElem?_eq_none (by omega)).symm
section
variable {w : World} {hs : Nat → Int} {t : Nat} {h₀ h h' : Heap} {m : Str → Option Value} {nl N D C : Nat} {nv : List Value} {nn : List Int} {krs : List Nat} {A : Around} {s : Shared}
theorem BS.ext42 (I : BS w hs t h₀ h) (hz : h₀.objs.size = 42) (k : Heap.ExtBut 42 h h') : BS w hs t h₀ h' := by
  have L : ∀ (b : Nat) v, b ≠ 42 → h.IsCell b v → h'.IsCell b v := fun b v hb ⟨o, ho, r⟩ => ⟨o, k _ _ hb ho, r⟩
  exact ⟨oldK_extBut I.old (by rw [hz]; exact leN (by omega)) k, fun b o e => k b o (neN (by have := fk_low e; omega)) (I.X b o e), fun p hp => k _ _ (neN (by have := fcl_at p hp; omega)) (I.C p hp),
    L _ _ (by omega) I.make, I.cellP.imp fun _ q => L _ _ (by omega) q, I.cellQ.imp fun _ q => L _ _ (by omega) q⟩
def letS : Stmt := nth lawB 3
set_option maxHeartbeats 2000000 in
theorem lets_run (R : Room A) (hz : h₀.objs.size = 42) (hI : IntsAre nv nn) (hsm : nn.length ≤ 33) (B : BS w hs t h₀ s.heap) (hl : s.heap.IsList nl nv.toArray) (hn : s.heap.Ns 42 m) (hm : m "numbers" = some (.ref nl)) {Q : Flow → Shared → Prop}
    (q : ∀ (ll : Nat) (lvs : List Value) (h' : Heap) (tk' : Nat), Heap.ExtBut 42 s.heap h' → h'.IsList ll lvs.toArray → IntsAre lvs (nn.map fun n => Int.fmod n 3) → ll ≠ 42 ∧ ll ≠ 43 ∧ ll ≠ 45 → h'.Ns 42 (fun z => if z = "letters" then some (.ref ll) else m z) → Q .next ⟨h', s.gens, s.drawn, tk', s.os⟩) :
    wpAny (model pr w) A (exec letS lawEnv) Q NoE s := by
  have hbig := B.big
  have hlen := hI.length
  have hnls : nl < s.heap.objs.size := by obtain ⟨o, ho, _⟩ := hl; exact Heap.lt_size ho
  refine wpAny_Assign_ListComp_free (fun _ => true) Md3 (cl := []) (by kernel_rfl) (by kernel_rfl) (by decide +kernel) (by kernel_rfl) (by decide +kernel) (by kernel_rfl) (by kernel_rfl) (by kernel_rfl) ?_
  refine wpAny_Name (wpAny_loadName_local lawEnv_kind (by kernel_rfl) hn hm ?_)
  refine wpAny_pyIter_list hl ?_
  dsimp only
  have c1 : (s.heap.push { cls := .type "list_iterator", data := .fields #[.ref nl, .int 0 0] }).IsListIter s.heap.objs.size nl 0 := ⟨_, Heap.get?_push_size s.heap rfl, rfl, rfl⟩
  have k1 := push_keep' (h := s.heap) { cls := .type "list_iterator", data := .fields #[.ref nl, .int 0 0] }
  have s1 := Heap.size_push s.heap { cls := .type "list_iterator", data := .fields #[.ref nl, .int 0 0] }
  generalize hH1 : s.heap.push { cls := .type "list_iterator", data := .fields #[.ref nl, .int 0 0] } = H1 at c1 k1 s1 ⊢
  have hne : nl ≠ s.heap.objs.size := by omega
  refine ⟨_, _, _, _, _, _, m, rfl, Walks.list R.h _ nl hne nv.toArray, ?_, ⟨c1, (let ⟨o, ho, r⟩ := hl; ⟨o, k1 _ _ ho, r⟩)⟩, ?_, ?_, hn.keeps k1, ⟨?_, ?_⟩, ?_⟩
  · rw [sizeLine_eq, List.size_toArray]; omega
  · intro b hb
    rcases List.mem_cons.mp hb with rfl | hb
    · rw [s1]; exact Nat.lt_succ_self _
    · rw [List.mem_singleton.mp hb, s1]; exact Nat.lt_succ_of_lt hnls
  · intro hb
    have := List.mem_singleton.mp hb
    have e : (42 : Nat) = s.heap.objs.size := this
    omega
  · intro C i v s₃ m₃ E' hC hv hns hk kp htk
    exact wpAny_pure ⟨rfl, ⟨_, _, rfl, fun _ _ e => e⟩⟩
  · intro C i v s₃ m₃ E' hC hv hp hns hk kp htk
    have hi : i < nv.length := by
      rw [List.getElem?_toArray] at hv
      exact (List.getElem?_eq_some_iff.mp hv).1
    obtain ⟨n, tn, e1, e2⟩ := ints_at hI hi
    rw [List.getElem?_toArray, e1] at hv
    cases hv
    refine wpAny_BinOp (wpAny_Name (wpAny_loadName_local (by kernel_rfl) (by kernel_rfl) hns hk ?_))
    refine wpAny_Constant_int (mod_int' (by decide) ?_)
    exact ⟨⟨n, tn, _, rfl, rfl⟩, ⟨_, _, rfl, fun _ _ e => e⟩⟩
  · intro D h' tk ys vs hD hl1 hpl hlv hP hF hns kp
    have hvs : vs = nv := list_same (by rw [hlv, List.size_toArray]) fun j v e => by rw [← List.getElem?_toArray]; exact hP j v e
    have hfl : vs.filter (fun _ => true) = nv := by rw [hvs]; simp
    rw [hfl] at hF
    have kp' : Heap.ExtBut 42 s.heap h' := fun b o hb e => kp b o hb (by
      intro hb2
      rw [List.mem_singleton.mp hb2] at e
      exact Nat.lt_irrefl _ (Heap.lt_size e)) (k1 b o e)
    have ne : ∀ {b : Addr} {o : Obj}, s.heap.get? b = some o → D ≠ b := fun {b o} e e2 => by rw [e2, k1 b o e] at hD; cases hD
    refine q D ys.toList h' tk kp' (by simpa using hl1) (ints_md3 hF hI) ⟨?_, ?_, ?_⟩ hns
    · obtain ⟨o, _, _, ho, _⟩ := hn; exact ne ho
    · obtain ⟨o, ho, _⟩ := B.make; exact ne ho
    · obtain ⟨v, o, ho, _⟩ := B.cellQ; exact ne ho
end
end Mine

namespace Mine
section
variable {w : World} {hs : Nat → Int} {t : Nat} {h₀ h h' : Heap} {m : Str → Option Value} {nl N D C : Nat} {nv : List Value} {nn : List Int} {krs : List Nat} {A : Around} {s : Shared}
set_option maxHeartbeats 4000000 in
theorem rest_run (R : Room A) (hA : A.depth ≤ 340 ∧ A.units ≤ 340) (hz : h₀.objs.size = 42) (I : BS w hs t h₀ s.heap) {vs : List Value} {ns : List Int} (hI : IntsAre vs ns) (hl : s.heap.IsList 41 vs.toArray) (hsm : ns.length ≤ 63)
    (n1 : s.heap.Ns 42 m) (n2 : m "script" = some (.ref 41)) {Q : Flow → Shared → Prop}
    (q : ∀ (h' : Heap) (tk : Nat), OldK h₀ h' → Q (.ret (.bool true)) ⟨h', s.gens, s.drawn, tk, s.os⟩) :
    wpAny (model pr w) A (execs (lawB.drop 1) lawEnv) Q NoE s := by
  rw [show lawB.drop 1 = [numS, keyS, letS, nth lawB 4, nth lawB 5, outerW, forS, retS] by kernel_rfl]
  obtain ⟨sh, sg, sd, st, so⟩ := s
  dsimp only at *
  refine wpAny_execs_cons (num_run R hA hz I hI hl hsm n1 n2 fun nl nv nn h1 tk1 m1 I1 hnl l1 i1 z1 a1 a2 => ?_)
  refine wpAny_execs_cons (keys_run R hz i1 z1 I1 hnl l1 a1 a2 fun kl krs h2 tk2 m2 hkl I2 l2 b1 b2 b3 lk hk hkey hfar => ?_)
  refine wpAny_execs_cons (lets_run R hz i1 z1 I2 l2 b1 b2 fun ll lvs h3 tk3 k3 ll3 i3 hll c1 => ?_)
  have I3 := I2.ext42 hz k3
  have hbig := I3.big
  refine wpAny_execs_cons (wpAny_Assign_Name (wpAny_List (Calls.spliced_nil ⟨by rw [sizeLine_eq]; simp, ?_⟩)))
  dsimp only
  have e4 := Heap.get?_push_size h3 (o := { cls := .type "list", data := .seq ([] : List Value).toArray }) rfl
  have k4 := push_keep' (h := h3) { cls := .type "list", data := .seq ([] : List Value).toArray }
  generalize hH4 : h3.push { cls := .type "list", data := .seq ([] : List Value).toArray } = h4 at e4 k4 ⊢
  have I4 := I3.ext k4
  obtain ⟨v44, c44⟩ := I4.cellP
  refine wpAny_storeName_cell lawEnv_kind (by kernel_rfl) (by kernel_rfl) c44 fun h5 c5 s5 => ?_
  have live : ∀ {b : Addr} {o : Obj}, h3.get? b = some o → b < h3.objs.size := fun e => Heap.lt_size e
  have kl3 : h3.IsList kl (krs.map Value.ref).toArray := (let ⟨o, ho, r⟩ := lk; ⟨o, k3 _ _ hk.1 ho, r⟩)
  have key3 : ∀ (i a : Nat), krs[i]? = some a → ∃ (da : Addr) (ti : Tok) (num : Int), h3.get? a = some (keyO num ti da) ∧ nn[i]? = some num := fun i a e => by
    obtain ⟨da, ti, num, e1, e2⟩ := hkey i a e
    exact ⟨da, ti, num, k3 _ _ (hfar a (List.mem_of_getElem? e)).1 e1, e2⟩
  have b44 : ∀ (b : Nat) (o : Obj), h4.get? b = some o → b ≠ 44 → h5.get? b = some o := fun b o e ne => (s5.2 b ne).trans e
  have ne44 : ∀ {b : Nat} {o : Obj}, h3.get? b = some o → (∀ v, o.data ≠ .cell v) → b ≠ 44 := fun {b o} e hn eb => by
    obtain ⟨v, o', e', hd⟩ := I3.cellP
    rw [eb] at e
    rw [e] at e'
    cases e'
    exact hn _ hd
  have up : ∀ {b : Nat} {o : Obj}, h3.get? b = some o → b ≠ 44 → h5.get? b = some o := fun {b o} e ne => b44 b o (k4 _ _ e) ne
  have upL : ∀ {b : Nat} {its : Array Value}, h3.IsList b its → h5.IsList b its := fun {b its} ⟨o, ho, hc, n, hd⟩ => ⟨o, up ho (ne44 ho fun v e => by rw [hd] at e; cases e), hc, n, hd⟩
  let c : Cx := ⟨w, hs, t, h₀, kl, ll, h3.objs.size, krs, lvs, nn.map fun n => Int.fmod n 3⟩
  have O : c.Ok := ⟨hz, i3, by show krs.length = _; rw [List.length_map]; exact hkl, by show (List.map _ nn).length ≤ 33; rw [List.length_map]; exact z1, ⟨hk, ?_⟩, ⟨hll, ?_⟩, hbig, fun a ha => ⟨hfar a ha, ?_⟩⟩
  rotate_left
  · obtain ⟨o, ho, _⟩ := kl3; exact Nat.ne_of_lt (live ho)
  · obtain ⟨o, ho, _⟩ := ll3; exact Nat.ne_of_lt (live ho)
  · obtain ⟨i, hi⟩ := List.getElem?_of_mem ha
    obtain ⟨da, ti, num, e1, e2⟩ := key3 i a hi
    exact Nat.ne_of_lt (live e1)
  have G : GS c [] [] h5 := by
    refine ⟨I4.old.step_same (by rw [hz]; exact leN (by omega)) s5, fun b o e => up (I3.X b o e) (by have := fk_low e; omega), fun p hp => up (I3.C p hp) ?_, upL kl3, fun i a e => ?_, upL ll3, c5, ?_, ?_, ?_, ?_, rfl⟩
    · exact neN (by have := fcl_at p hp; omega)
    · obtain ⟨da, ti, num, e1, e2⟩ := key3 i a e
      refine ⟨da, ti, num, up e1 (ne44 e1 fun v e => by cases e), ?_⟩
      show (List.map _ nn)[i]? = _
      rw [List.getElem?_map, e2]; rfl
    · obtain ⟨v, x⟩ := I4.cellQ
      exact ⟨v, isCell_same x s5 (neN (by omega))⟩
    · exact ⟨_, 0, b44 h3.objs.size _ e4 (by omega), rfl, rfl, rfl⟩
    · intro k r q h1 h2
      simp at h1
    · intro r hr
      simp at hr
  have L : Lo c (m2 "start") (m2 "near") (m2 "far") (m2 "step") h5 := by
    refine ⟨_, (c1.keeps k4).sameBut s5 (neN (by omega)), ?_, ?_, ?_, ?_, ?_, ?_⟩
    · exact (if_neg (ne_str (by kernel_rfl))).trans b3
    · exact if_pos rfl
    all_goals exact if_neg (ne_str (by kernel_rfl))
  refine wpAny_execs_cons (wpAny_Assign_Name ?_)
  refine wpAny_Constant_int ?_
  refine st_start O G L fun h6 G6 L6 => ?_
  refine wpAny_execs_cons (whl_start 0 ?_)
  refine outer_run O R ?_ c.n [] [] 0 _ _ _ _ h6 _ rfl (Nat.zero_le _) (Nat.le_refl _) G6 L6 PI.nil (fun q hq => (by cases hq))
  intro rs ps sv nv fv pv h7 tk7 G7 L7 P7 hp7
  refine wpAny_execs_cons (for_run O R G7 P7 hp7 fun h8 tk8 G8 => ?_)
  refine wpAny_execs_cons (ret_run O R G8 P7 hp7 fun h9 tk9 K9 => ?_)
  exact q h9 tk9 K9
end
end Mine

namespace Mine
theorem mem_look {l : Frag} {a : Addr} {o : Obj} (e : l.lookup a = some o) : (a, o) ∈ l := by
  induction l with
  | nil => cases e
  | cons p l ih =>
    rw [List.lookup_cons] at e
    cases q : (a == p.1) with
    | true =>
      rw [q] at e
      have : a = p.1 := by simpa using q
      cases e
      rw [this]; exact .head _
    | false => rw [q] at e; exact .tail _ (ih e)
theorem law_call {w : World} {s : Shared} {vs : List Value} {ns : List Int} (O : (VV w s vs).Ok) {A : Around} (hA : A.handled = none) (hd : A.depth ≤ 310) (hu : A.units ≤ 310) (h41 : s.heap.get? 41 = some ⟨.type "list", none, .seq vs.toArray 0, #[]⟩) (hI : IntsAre vs ns) (hsm : ns.length ≤ 63)
    {R : Result → Shared → Prop} (q : ∀ (h' : Heap) (tk : Nat), OldK s.heap h' → R (.ok (.ret (.bool true))) ⟨h', s.gens, s.drawn, tk, s.os⟩) :
    codeAny (model pr w) A (.call (.ref 40) ⟨[.ref 41], []⟩) R s := by
  have key : codeAny (model pr w) A (.call (.ref 40) ⟨[.ref 41], []⟩) R (St (VV w s vs) s.gens s.heap d0) := by
    refine prefix_walk (h := s.heap) O hA (Nat.lt_of_le_of_lt (Nat.add_le_add_right hd 2) (by decide)) fun d' h' D hm S1 S2 S3 => ?_
    have X : (fk w.params).In h' := fun a o e => seen_get O D S3 (a, o) (mem_look e)
    have C : clsAll (hashAt (look (VV w s vs) d'.T d'.ch 112)) s.toks h' := fun p hp => seen_get O D S1 p hp
    have K : OldK s.heap h' := Rep.oldK O D
    have f42 := seen_get O D S2 _ (List.mem_of_getElem? (l := ffr w.params s.toks) (i := 0) rfl)
    have f43 := seen_get O D S2 _ (List.mem_of_getElem? (l := ffr w.params s.toks) (i := 1) rfl)
    have f44 := seen_get O D S2 _ (List.mem_of_getElem? (l := ffr w.params s.toks) (i := 2) rfl)
    have f45 := seen_get O D S2 _ (List.mem_of_getElem? (l := ffr w.params s.toks) (i := 3) rfl)
    have B : BS w (hashAt (look (VV w s vs) d'.T d'.ch 112)) s.toks s.heap h' := ⟨K, X, C, ⟨_, f43, rfl⟩, ⟨_, _, f44, rfl⟩, ⟨_, _, f45, rfl⟩⟩
    have n1 := ns_at f42 (by kernel_rfl) (by kernel_rfl)
    have l1 : h'.IsList 41 vs.toArray := ⟨_, K.get_of_cls h41 (by intro e; cases e), rfl, 0, rfl⟩
    have R' : Room (A.deeper lawEnv) := ⟨hA, by show A.depth + 1 ≤ 350; omega, by show A.units + 3 ≤ 350; omega⟩
    refine rest_run (s := St (VV w s vs) s.gens h' d') R' ⟨by show A.depth + 1 ≤ 340; omega, by show A.units + 3 ≤ 340; omega⟩ O.size B hI l1 hsm n1 ?_ fun h2 tk2 K2 => q h2 tk2 K2
    kernel_rfl
  exact key
end Mine

namespace Mine
theorem vv_ok {w : World} {s : Shared} {vs : List Value} (X : AllIn s.heap (fk w.params)) (h23 : s.heap.get? (nat_lit 23) = some (tableObj #[])) (h37 : s.heap.get? (nat_lit 37) = some (tableObj #[])) (hsz : s.heap.objs.size = 42)
    (h41 : s.heap.get? (nat_lit 41) = some ⟨.type "list", none, .seq vs.toArray 0, #[]⟩) : (VV w s vs).Ok := by
  refine ⟨hsz, ?_, fun a us e => ?_⟩
  · delta VV
    dsimp only
    generalize hK : (_ :: fk w.params : Frag) = K
    exact holds_of (by rw [← hK]; exact ⟨h41, h23, h37, X⟩)
  have e' : chLook [(23, #[]), (37, #[])] a = some us := e
  have X27 : s.heap.get? 27 = some (codeO "cmp_to_key" 198 7 1 3 22 23 (.ref 24) (.ref 25) 26 204 205) := X.2.2.2.2.2.2.2.1
  have X39 : s.heap.get? 39 = some (codeO "law" 218 38 1 3 36 37 .none .none 38 221 222) := X.2.2.2.2.2.2.2.2.2.2.2.1
  unfold chLook at e'
  cases q : Nat.beq (23, (#[] : Array Value)).1 a with
  | true =>
    rw [q] at e'
    cases e'
    have : a = 23 := (Nat.eq_of_beq_eq_true q).symm
    rw [this]
    exact ⟨27, ⟨_, _, X27, rfl, rfl, rfl⟩, h23⟩
  | false =>
    rw [q] at e'
    unfold chLook at e'
    cases q2 : Nat.beq (37, (#[] : Array Value)).1 a with
    | true =>
      rw [q2] at e'
      cases e'
      have : a = 37 := (Nat.eq_of_beq_eq_true q2).symm
      rw [this]
      exact ⟨39, ⟨_, _, X39, rfl, rfl, rfl⟩, h37⟩
    | false =>
      rw [q2] at e'
      cases e'
theorem law_end {w : World} {s : Shared} {vs : List Value} {ns : List Int} (X : AllIn s.heap (fk w.params)) (h23 : s.heap.get? (nat_lit 23) = some (tableObj #[])) (h37 : s.heap.get? (nat_lit 37) = some (tableObj #[])) (hsz : s.heap.objs.size = 42)
    (h41 : s.heap.get? (nat_lit 41) = some ⟨.type "list", none, .seq vs.toArray 0, #[]⟩) (hI : IntsAre vs ns) (hsm : ns.length ≤ 63) (hg : s.gens = #[]) {c : ClaimW} {cl : Str → Option Addr} {mean : ExcName → Option Value} {args : List WData}
    (hr : ∀ cls, c.raises args cls = false) (hp : c.post args (.bool true) args = true) :
    wpAny (model pr w) callerA (call (.ref 40) [.ref 41]) (fun v s' => GoodWG c cl mean args s (.ok (.ret v)) s') (fun e s' => GoodWG c cl mean args s (.error e) s') s := by
  refine wpAny_call (law_call (vv_ok X h23 h37 hsz h41) rfl (by decide) (by decide) h41 hI hsm fun h' tk K => ?_)
  exact ⟨.inl ⟨_, _, [], rfl, hr, ReadsW.bool true, hp, fun _ => ⟨List.nodup_nil, fun _ hm => (nomatch hm)⟩⟩, K, rfl, .of_eq hg⟩
end Mine

set_option maxRecDepth 100000 in
set_option maxHeartbeats 8000000 in
theorem PySem.Challenge.cw_dp0025_01_holds : PySem.Challenge.rw_dp0025_01.Holds := by
  w_on; o_law; z_head; (case hw => w_witness2)
  k_fill
  intro w s₀ s₁ mg mb G y fa o pm cd doc dV kV ho hd hcd hD hmg hg args vals as L hpre hlay hrd hwl hlo
  z_open y L KX ZH ZN ZT
  refine Ground.open G ?_
  intro T B D TE TW
  wrow_args hpre hlay hrd hwl hlo
  obtain ⟨hat, hsz⟩ := script_at L
  rw [ZN] at hat hsz
  subst hat
  x_fa T KX hmg
  z_lists L
  have X : AllIn s₁.heap (Mine.fk w.params) := by
    unfold Mine.fk
    exact ⟨KX _ _ (by kernel_rfl), KX _ _ (by kernel_rfl), KX _ _ (by kernel_rfl), KX _ _ (by kernel_rfl), KX _ _ (by kernel_rfl), KX _ _ (by kernel_rfl), KX _ _ (by kernel_rfl), KX _ _ (by kernel_rfl), KX _ _ (by kernel_rfl), KX _ _ (by kernel_rfl), KX _ _ (by kernel_rfl), KX _ _ (by kernel_rfl), KX _ _ (by kernel_rfl), trivial⟩
  refine Mine.law_end X (KX _ _ (by kernel_rfl)) (KX _ _ (by kernel_rfl)) hsz (by assumption) (by assumption) (by omega) hg (fun _ => rfl) ?_
  first | rfl | wrow_post
