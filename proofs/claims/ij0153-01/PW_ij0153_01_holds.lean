import PyProof.Rows.All
import Wide.All
import OpenK.AllK
import Wide.FinOn
import KE.BitLaws
import KE.IntBitsLaws
import KE.KBits
import KE.KLcTest
import KE.KDictIter
import KE.KOwnIter
import KE.KTryDeep
import KE.KWhile
import PySem.Challenge.RW_ij0153_01
set_option Elab.async false
section PartH1
open PySem PySem.W PyProof.Rows
namespace Mine
set_option maxRecDepth 100000 in
set_option maxHeartbeats 8000000 in
open_top hd for PySem.Challenge.rw_ij0153_01
end Mine
end PartH1

section PartB1
open PySem PySem.W PyProof.Rows
namespace Mine
set_option maxRecDepth 100000

/-- what a call of the def at f with the arguments vs, over the ledger news, gives back -/
def Ctr (w : World) (p : Program) (loose : List Str) (mean : ExcName → Option Value) (mg mb : Str → Option Value) (base : Heap) (f : Addr) (vs : List Value) (need : Nat) (news : List (Addr × Obj)) (Post : Value → List (Addr × Obj) → Prop) : Prop :=
  ∀ (dp un : Nat) (gd : Option (List Code)) (cn : Str) (cs : Scope) (a : Addr) (ccd : Value) (cl : List (Str × Addr)) (outer : List Env) (A₀ : Around) (h₀ : Heap) (L : Addr) (m : Str → Option Value) (s : Shared) (Q E : Value → Shared → Prop),
    Below A₀ base outer h₀ → Fr h₀ L s.heap m → (hd.heap_39 w.params).In h₀ → News h₀ L s.heap news → Top p loose mean mg mb h₀ → CodeHd base 27 23 → CodeHd base 20 16 → cs.kind = .function →
    dp + need < recursionLimit → un + 10 * need < cLine →
    (∀ r news' h' tk', Fr h₀ L h' m → News h₀ L h' news' → Post r news' → Q r { s with heap := h', toks := tk' }) →
    wpAny (model PySem.Challenge.rw_ij0153_01.row.prog w) (ktrTop dp un gd cn cs L a ccd cl outer) (call (.ref f) vs) Q E s

end Mine
end PartB1

section PartM1
namespace Mine

/-- the number whose digits by 2 ^ n are ds, the lowest first -/
def val (n : Nat) : List Int → Int
  | [] => 0
  | d :: r => d + 2 ^ n * val n r

theorem pow2_pos (k : Nat) : (0 : Int) < 2 ^ k := by
  induction k with
  | zero => decide
  | succ k ih => rw [Int.pow_succ]; omega

theorem pow2_le {a b : Nat} (h : a ≤ b) : (2 : Int) ^ a ≤ 2 ^ b := by
  have e : b = a + (b - a) := by omega
  rw [e, Int.pow_add]
  have h1 := pow2_pos a
  have h2 := pow2_pos (b - a)
  have h3 : (2 : Int) ^ a * 1 ≤ 2 ^ a * 2 ^ (b - a) := Int.mul_le_mul_of_nonneg_left (by omega) (by omega)
  omega

theorem val_append (n : Nat) : ∀ a b : List Int, val n (a ++ b) = val n a + 2 ^ (n * a.length) * val n b
  | [], b => by simp [val]
  | d :: r, b => by
    rw [List.cons_append, val, val, val_append n r b, List.length_cons, Nat.mul_succ, Nat.add_comm (n * r.length) n, Int.pow_add, Int.mul_add, Int.mul_assoc]
    omega

/-- digits by 2 ^ n -/
def Digits (n : Nat) (ds : List Int) : Prop := ∀ d ∈ ds, 0 ≤ d ∧ d < 2 ^ n

theorem val_bounds (n : Nat) : ∀ ds : List Int, Digits n ds → 0 ≤ val n ds ∧ val n ds < 2 ^ (n * ds.length)
  | [], _ => by simp [val]
  | d :: r, h => by
    have h1 := h d (.head _)
    have h2 := val_bounds n r fun x hx => h x (.tail _ hx)
    have hp := pow2_pos n
    rw [val, List.length_cons, Nat.mul_succ, Nat.add_comm (n * r.length) n, Int.pow_add]
    have h3 : (2 : Int) ^ n * val n r ≤ 2 ^ n * (2 ^ (n * r.length) - 1) := Int.mul_le_mul_of_nonneg_left (by omega) (by omega)
    have h4 : 0 ≤ (2 : Int) ^ n * val n r := Int.mul_nonneg (by omega) h2.1
    rw [Int.mul_sub] at h3
    omega

/-- the digits from the place i on, up to the place j -/
def seg (ds : List Int) (i j : Nat) : List Int := (ds.drop i).take (j - i)

theorem seg_length (ds : List Int) {i j : Nat} (h : j ≤ ds.length) : (seg ds i j).length = j - i := by
  unfold seg
  rw [List.length_take, List.length_drop]
  omega
theorem seg_split (ds : List Int) {i m j : Nat} (h1 : i ≤ m) (h2 : m ≤ j) : seg ds i j = seg ds i m ++ seg ds m j := by
  unfold seg
  have e1 : j - i = (m - i) + (j - m) := by omega
  rw [e1, List.take_add, List.drop_drop]
  congr 3
  omega
theorem seg_one (ds : List Int) {i : Nat} (h : i < ds.length) : seg ds i (i + 1) = [ds[i]] := by
  unfold seg
  rw [Nat.add_sub_cancel_left, List.take_one, List.head?_drop, List.getElem?_eq_getElem h]
  rfl
theorem seg_all (ds : List Int) : seg ds 0 ds.length = ds := by simp [seg]
theorem seg_digits {n : Nat} {ds : List Int} (h : Digits n ds) (i j : Nat) : Digits n (seg ds i j) := fun d hd => h d (List.mem_of_mem_drop (List.mem_of_mem_take hd))
end Mine
end PartM1

section PartM2
namespace Mine
open PySem

theorem and_high (x s : Nat) : x &&& (x / 2 ^ s * 2 ^ s) = x / 2 ^ s * 2 ^ s := by
  apply Nat.eq_of_testBit_eq
  intro i
  rw [Nat.testBit_and, Nat.mul_comm, Nat.testBit_two_pow_mul, Nat.testBit_div_two_pow]
  by_cases h : s ≤ i
  · simp [h]
  · simp [h]

theorem xor_high {x : Int} (hx : 0 ≤ x) (s : Nat) : Builtin.bitXor x (x / 2 ^ s * 2 ^ s) = x % 2 ^ s := by
  have hp := pow2_pos s
  have h0 : 0 ≤ x / 2 ^ s := Int.ediv_nonneg hx (by omega)
  have h1 : 0 ≤ x / 2 ^ s * 2 ^ s := Int.mul_nonneg h0 (by omega)
  have e : (x / 2 ^ s * 2 ^ s).toNat = x.toNat / 2 ^ s * 2 ^ s := by
    have e1 : (x.toNat : Int) = x := Int.toNat_of_nonneg hx
    have e2 : ((x.toNat / 2 ^ s * 2 ^ s : Nat) : Int) = x / 2 ^ s * 2 ^ s := by
      rw [Int.natCast_mul, Int.natCast_ediv, e1, PySem.W.kbt_cast]
    rw [← e2, Int.toNat_natCast]
  rw [PyProof.Rows.bitXor_and, PyProof.Rows.bitAnd_pp hx h1, e, and_high, ← e, Int.toNat_of_nonneg h1]
  have h2 := Int.emod_add_mul_ediv x (2 ^ s)
  rw [Int.mul_comm] at h2
  omega

/-- the first k digits of a by 2 ^ n, the lowest first -/
def digs (n : Nat) : Int → Nat → List Int
  | _, 0 => []
  | a, k + 1 => a % 2 ^ n :: digs n (a / 2 ^ n) k

theorem digs_length (n : Nat) : ∀ (k : Nat) (a : Int), (digs n a k).length = k
  | 0, _ => rfl
  | k + 1, a => by rw [digs, List.length_cons, digs_length n k]

theorem digs_digits (n : Nat) : ∀ (k : Nat) (a : Int), Digits n (digs n a k)
  | 0, _ => fun d hd => nomatch hd
  | k + 1, a => fun d hd => by
    have hp := pow2_pos n
    rcases List.mem_cons.mp hd with rfl | hd
    · exact ⟨Int.emod_nonneg _ (by omega), Int.emod_lt_of_pos _ hp⟩
    · exact digs_digits n k _ d hd

theorem mod_pow_mod (a : Int) (n m : Nat) : a % 2 ^ (n + m) % 2 ^ n = a % 2 ^ n :=
  Int.emod_emod_of_dvd a ⟨2 ^ m, Int.pow_add 2 n m⟩
theorem mod_pow_div (a : Int) (n m : Nat) : a % 2 ^ (n + m) / 2 ^ n = a / 2 ^ n % 2 ^ m := by
  have hn := pow2_pos n
  have hm := pow2_pos m
  have e := Int.emod_add_mul_ediv a (2 ^ (n + m))
  have e1 : a = a % 2 ^ (n + m) + 2 ^ n * (2 ^ m * (a / 2 ^ (n + m))) := by
    rw [← Int.mul_assoc, ← Int.pow_add]
    exact e.symm
  have e2 : a / 2 ^ n = a % 2 ^ (n + m) / 2 ^ n + 2 ^ m * (a / 2 ^ (n + m)) := by
    conv => lhs; rw [e1]
    rw [Int.add_mul_ediv_left _ _ (by omega)]
  rw [e2, Int.add_mul_emod_self_left]
  refine (Int.emod_eq_of_lt ?_ ?_).symm
  · exact Int.ediv_nonneg (Int.emod_nonneg _ (by have := pow2_pos (n + m); omega)) (by omega)
  · apply Int.ediv_lt_of_lt_mul hn
    rw [Int.mul_comm, ← Int.pow_add]
    exact Int.emod_lt_of_pos _ (pow2_pos _)

theorem digs_add (n : Nat) : ∀ (m k : Nat) (a : Int), digs n a (m + k) = digs n (a % 2 ^ (n * m)) m ++ digs n (a / 2 ^ (n * m)) k
  | 0, k, a => by simp [digs]
  | m + 1, k, a => by
    rw [Nat.succ_add, digs, digs, digs_add n m k, Nat.mul_succ, Nat.add_comm (n * m) n, mod_pow_mod, mod_pow_div, List.cons_append]
    congr 3
    rw [Int.pow_add, Int.ediv_ediv_of_nonneg (Int.le_of_lt (pow2_pos n))]

theorem digs_one {n : Nat} {a : Int} (h0 : 0 ≤ a) (h1 : a < 2 ^ n) : digs n a 1 = [a] := by
  rw [digs, digs, Int.emod_eq_of_lt h0 h1]

theorem val_digs (n : Nat) : ∀ (k : Nat) (a : Int), 0 ≤ a → a < 2 ^ (n * k) → val n (digs n a k) = a
  | 0, a, h0, h1 => by
    rw [Nat.mul_zero, Int.pow_zero] at h1
    rw [digs, val]
    omega
  | k + 1, a, h0, h1 => by
    have hn := pow2_pos n
    rw [digs, val, val_digs n k (a / 2 ^ n) (Int.ediv_nonneg h0 (by omega)) ?_]
    · exact Int.emod_add_mul_ediv a (2 ^ n)
    · apply Int.ediv_lt_of_lt_mul hn
      rw [Int.mul_comm, ← Int.pow_add, Nat.add_comm, ← Nat.mul_succ]
      exact h1
end Mine
end PartM2

section PartM3
namespace Mine
/-- the list ns, its places from i up to j the digits of x -/
def upd (n : Nat) (ns : List Int) (i j : Nat) (x : Int) : List Int := ns.take i ++ digs n x (j - i) ++ ns.drop j

theorem upd_length (n : Nat) (ns : List Int) {i j : Nat} (x : Int) (h1 : i ≤ j) (h2 : j ≤ ns.length) : (upd n ns i j x).length = ns.length := by
  unfold upd
  simp only [List.length_append, List.length_take, List.length_drop, digs_length]
  omega
theorem upd_one {n : Nat} {ns : List Int} {i : Nat} {x : Int} (h : i < ns.length) (h0 : 0 ≤ x) (h1 : x < 2 ^ n) : upd n ns i (i + 1) x = ns.set i x := by
  unfold upd
  rw [Nat.add_sub_cancel_left, digs_one h0 h1, List.set_eq_take_append_cons_drop, if_pos h]
  simp
theorem upd_two (n : Nat) (ns : List Int) {i m j : Nat} (x : Int) (h1 : i ≤ m) (h2 : m ≤ j) (h3 : j ≤ ns.length) :
    upd n (upd n ns i m (x % 2 ^ (n * (m - i)))) m j (x / 2 ^ (n * (m - i))) = upd n ns i j x := by
  have e : j - i = (m - i) + (j - m) := by omega
  have hl : (ns.take i ++ digs n (x % 2 ^ (n * (m - i))) (m - i)).length = m := by
    simp only [List.length_append, List.length_take, digs_length]
    omega
  unfold upd
  rw [e, digs_add n (m - i) (j - m) x]
  have e1 : (ns.take i ++ digs n (x % 2 ^ (n * (m - i))) (m - i) ++ ns.drop m).take m = ns.take i ++ digs n (x % 2 ^ (n * (m - i))) (m - i) := by
    conv => lhs; arg 1; rw [← hl]
    exact List.take_left
  have e2 : (ns.take i ++ digs n (x % 2 ^ (n * (m - i))) (m - i) ++ ns.drop m).drop j = ns.drop j := by
    have : j = m + (j - m) := by omega
    rw [this, ← List.drop_drop]
    conv => lhs; arg 2; arg 1; rw [← hl]
    rw [List.drop_left, List.drop_drop]
  rw [e1, e2]
  simp only [List.append_assoc]
theorem upd_all (n : Nat) (ns : List Int) (x : Int) : upd n ns 0 ns.length x = digs n x ns.length := by
  simp [upd]
open PySem in
/-- the number of digits that _int2digits makes -/
def ndig (n : Nat) (a : Int) : Nat := (Builtin.Int.intBits a + n - 1) / n
open PySem in
theorem ndig_lt {n : Nat} {a : Int} (hn : 1 ≤ n) (ha : 0 ≤ a) : a < 2 ^ (n * ndig n a) := by
  have h1 : a.natAbs < 2 ^ Builtin.Int.intBits a := intBits_le_iff.mp (Nat.le_refl _)
  have h2 : Builtin.Int.intBits a ≤ n * ndig n a := by
    unfold ndig
    have := Nat.lt_mul_div_succ (Builtin.Int.intBits a + n - 1) (show 0 < n by omega)
    rw [Nat.mul_add, Nat.mul_one] at this
    omega
  have h3 : (2 : Int) ^ Builtin.Int.intBits a ≤ 2 ^ (n * ndig n a) := pow2_le h2
  have h4 : ((2 ^ Builtin.Int.intBits a : Nat) : Int) = (2 : Int) ^ Builtin.Int.intBits a := PySem.W.kbt_cast _
  omega
open PySem in
theorem ndig_pos {n : Nat} {a : Int} (hn : 1 ≤ n) (ha : a ≠ 0) : 1 ≤ ndig n a := by
  unfold ndig
  rw [Nat.le_div_iff_mul_le (by omega)]
  have : 1 ≤ Builtin.Int.intBits a := by
    unfold Builtin.Int.intBits
    rw [if_neg (by simpa using ha)]
    omega
  omega
open PySem in
theorem ndig_zero {n : Nat} (hn : 1 ≤ n) : ndig n 0 = 0 := by
  unfold ndig
  exact Nat.div_eq_of_lt (by simp [Builtin.Int.intBits]; omega)
end Mine
end PartM3

section PartB3
open PySem PySem.W PyProof.Rows
namespace Mine
set_option maxRecDepth 100000

/-- the table of a def's nested defs: empty, or with the one nested def's code in it, whose record the ledger bears -/
def TabOK (line col : Nat) (qual : Str) (ps : Array Value) (rest : List (Addr × Obj)) : Prop :=
  ps = #[] ∨ ∃ c oc vs t, ps = #[rawInt line, rawInt col, .ref c] ∧ (c, oc) ∈ rest ∧ oc.data = .fields vs ∧ vs[1]? = some (.str qual t)

theorem TabOK.mono {line col : Nat} {qual : Str} {ps : Array Value} {rest rest' : List (Addr × Obj)} (h : TabOK line col qual ps rest) (k : ∀ p ∈ rest, p ∈ rest') : TabOK line col qual ps rest' := by
  rcases h with h | ⟨c, oc, vs, t, h1, h2, h3, h4⟩
  · exact .inl h
  · exact .inr ⟨c, oc, vs, t, h1, k _ h2, h3, h4⟩

theorem TabOK.drop {line col : Nat} {qual : Str} {ps : Array Value} {tl rest : List (Addr × Obj)} {x : Addr × Obj} (h : TabOK line col qual ps (tl ++ x :: rest)) (hx : ∀ vs, x.2.data ≠ .fields vs) : TabOK line col qual ps (tl ++ rest) := by
  rcases h with h | ⟨c, oc, vs, t, h1, h2, h3, h4⟩
  · exact .inl h
  · refine .inr ⟨c, oc, vs, t, h1, ?_, h3, h4⟩
    simp only [List.mem_append, List.mem_cons] at h2 ⊢
    rcases h2 with h2 | rfl | h2
    · exact .inl h2
    · exact absurd h3 (hx vs)
    · exact .inr h2

theorem News.sub {h₀ h : Heap} {L : Addr} {a b : List (Addr × Obj)} (N : News h₀ L h a) (k : ∀ p ∈ b, p ∈ a) : News h₀ L h b := fun p hp => N p (k p hp)

section
variable {M : Model} {A : Around} {E : Value → Shared → Prop} {s : Shared} {h₀ : Heap} {L a c P : Addr} {m mg mb : Str → Option Value} {cn : Str} {cs : Scope} {cl : List (Str × Addr)}
  {p : Program} {loose : List Str} {mean : ExcName → Option Value} {name qual : Str} {params : Arguments} {body : List Stmt} {scope : Scope} {ps : Array Value} {pos : Pos} {firstLine : Nat} {clos : List (Str × Addr)} {rest : List (Addr × Obj)}

theorem makeInner {Q : Value → Shared → Prop} (F : Fr h₀ L s.heap m) (N : News h₀ L s.heap ((P, tabObj ps) :: rest)) (T : Top p loose mean mg mb h₀) (C : CodeHd h₀ c P)
    (hP : ∀ q ∈ rest, q.1 ≠ P) (tab : TabOK pos.line pos.col qual ps rest) (hcl : closureFor scope (envX cn cs L a (.ref c) cl) = pure clos)
    (h : ∀ f c' oc vs t ctv doc ps' tl h' tk, Fr h₀ L h' m →
      News h₀ L h' ((f, fnMade name qual params body scope clos doc ((mg "__name__").getD .none) c' ctv) :: (P, tabObj ps') :: (tl ++ rest)) →
      TabOK pos.line pos.col qual ps' (tl ++ rest) → (c', oc) ∈ tl ++ rest → oc.data = .fields vs → vs[1]? = some (.str qual t) →
      (∀ q ∈ tl, ∀ r ∈ (P, tabObj ps) :: rest, r.1 < q.1) → (∀ q ∈ tl ++ rest, q.1 < f) → P < f → Q (.ref f) { s with heap := h', toks := tk }) :
    wpAny M A (makeFunction name qual params (.stmts body) scope (envX cn cs L a (.ref c) cl) [] [] [] pos firstLine) Q E s := by
  rcases tab with rfl | ⟨c', oc, vs, t, rfl, hm, hd, hv⟩
  · refine nest_K F N T C rfl (UpdF.head hP) True.intro rfl hcl fun f c' oc vs t ctv doc h' tk F' N' hd hv l1 l2 => ?_
    refine h f c' oc vs t ctv doc _ [(c', oc)] h' tk F' (News.sub N' ?_) (.inr ⟨c', oc, vs, t, rfl, .head _, hd, hv⟩) (.head _) hd hv ?_ ?_ ?_
    · intro q hq
      simp only [List.cons_append, List.nil_append, List.mem_cons] at hq ⊢
      rcases hq with rfl | rfl | rfl | hq
      · exact .inl rfl
      · exact .inr (.inr (.inl rfl))
      · exact .inr (.inl rfl)
      · exact .inr (.inr (.inr hq))
    · intro q hq r hr
      rw [List.mem_singleton.mp hq]
      exact l1 r hr
    · intro q hq
      rcases List.mem_cons.mp hq with rfl | hq
      · exact l2
      · exact Nat.lt_trans (l1 q (.tail _ hq)) l2
    · exact Nat.lt_trans (l1 _ (.head _)) l2
  · refine nestHit_K (ps := #[rawInt pos.line, rawInt pos.col, .ref c']) (c' := c') F N T C rfl (.head _) ?_ ?_ hcl fun f ctv doc h' tk F' N' l1 => ?_
    · simp [TriplesOk, rawInt]
    · simp [codeAmong, rawInt]
    · exact h f c' oc vs t ctv doc _ [] h' tk F' N' (.inr ⟨c', oc, vs, t, rfl, hm, hd, hv⟩) hm hd hv (fun q hq => nomatch hq) (fun q hq => l1 q (.tail _ hq)) (l1 _ (.head _))

/-- the statement that makes the nested def, and keeps it in a cell -/
theorem defInner {Q : Flow → Shared → Prop} {cI : Addr} {oI : Obj} {v₀ : Option Value} (F : Fr h₀ L s.heap m) (N : News h₀ L s.heap ((P, tabObj ps) :: (cI, oI) :: rest)) (T : Top p loose mean mg mb h₀) (C : CodeHd h₀ c P)
    (hP : ∀ q ∈ (cI, oI) :: rest, q.1 ≠ P) (hI : ∀ q ∈ rest, q.1 < cI ∨ cI < q.1) (hIP : P < cI) (hdI : oI.data = .cell v₀) (tab : TabOK pos.line pos.col (qualnameIn (envX cn cs L a (.ref c) cl) name name) ps rest)
    (hcl : closureFor scope (envX cn cs L a (.ref c) cl) = pure clos) (hd0 : params.defaults = []) (hk0 : params.kw_defaults = []) (ha : annTrees params none (envX cn cs L a (.ref c) cl) = [])
    (hk : cs.kind = .function) (hx : (envX cn cs L a (.ref c) cl).kindOf name = some .cell) (hlc : cl.lookup name = some cI)
    (h : ∀ f oI' c' oc vs t ctv doc ps' tl h' tk, Fr h₀ L h' m →
      News h₀ L h' ((f, fnMade name (qualnameIn (envX cn cs L a (.ref c) cl) name name) params body scope clos doc ((mg "__name__").getD .none) c' ctv) :: (P, tabObj ps') :: (cI, oI') :: (tl ++ rest)) →
      oI'.data = .cell (some (.ref f)) → TabOK pos.line pos.col (qualnameIn (envX cn cs L a (.ref c) cl) name name) ps' (tl ++ rest) → (c', oc) ∈ tl ++ rest → oc.data = .fields vs → vs[1]? = some (.str (qualnameIn (envX cn cs L a (.ref c) cl) name name) t) →
      (∀ q ∈ tl, ∀ r ∈ (P, tabObj ps) :: (cI, oI) :: rest, r.1 < q.1) → (∀ q ∈ tl ++ rest, q.1 < f) → P < f → cI < f → Q .next { s with heap := h', toks := tk }) :
    wpAny M A (exec (.FunctionDef name params body [] none [] scope none name pos) (envX cn cs L a (.ref c) cl)) Q E s := by
  refine nestDef_K hd0 hk0 ha ?_
  refine makeInner F N T C hP (tab.mono fun q hq => .tail _ hq) hcl fun f c' oc vs t ctv doc ps' tl h' tk F' N' tab' hm hd hv l1 l2 l3 => ?_
  have hcf : cI < f := l2 (cI, oI) (List.mem_append.mpr (.inr (.head _)))
  have N₂ : News h₀ L h' ((cI, oI) :: (f, fnMade name (qualnameIn (envX cn cs L a (.ref c) cl) name name) params body scope clos doc ((mg "__name__").getD .none) c' ctv) :: (P, tabObj ps') :: (tl ++ rest)) := News.sub N' fun q hq => by
    simp only [List.mem_cons, List.mem_append] at hq ⊢
    rcases hq with rfl | rfl | rfl | hq | hq
    · exact .inr (.inr (.inr (.inl rfl)))
    · exact .inl rfl
    · exact .inr (.inl rfl)
    · exact .inr (.inr (.inl hq))
    · exact .inr (.inr (.inr (.inr hq)))
  have hmI : (c', oc) ≠ (cI, oI) := fun e => by
    cases e
    rw [hdI] at hd; cases hd
  have hm' : (c', oc) ∈ tl ++ rest := by
    simp only [List.mem_cons, List.mem_append] at hm ⊢
    rcases hm with hm | hm | hm
    · exact .inl hm
    · exact absurd hm hmI
    · exact .inr hm
  have tab'' : TabOK pos.line pos.col (qualnameIn (envX cn cs L a (.ref c) cl) name name) ps' (tl ++ rest) := by
    rcases tab' with h1 | ⟨c₂, oc₂, vs₂, t₂, h1, h2, h3, h4⟩
    · exact .inl h1
    · refine .inr ⟨c₂, oc₂, vs₂, t₂, h1, ?_, h3, h4⟩
      simp only [List.mem_cons, List.mem_append] at h2 ⊢
      rcases h2 with h2 | h2 | h2
      · exact .inl h2
      · cases h2
        rw [hdI] at h3; cases h3
      · exact .inr h2
  refine storeX_C (s := { s with heap := h', toks := tk }) F' N₂ hlc (UpdF.head ?_) hdI (fun h₂ o' F₂ N₃ hd₂ => ?_) hk hx
  · intro q hq
    simp only [List.mem_cons, List.mem_append] at hq
    rcases hq with rfl | rfl | hq | hq
    · exact Nat.ne_of_gt hcf
    · exact Nat.ne_of_lt hIP
    · exact Nat.ne_of_gt (l1 q hq (cI, oI) (.tail _ (.head _)))
    · rcases hI q hq with k | k
      · exact Nat.ne_of_lt k
      · exact Nat.ne_of_gt k
  · refine h f o' c' oc vs t ctv doc ps' tl h₂ tk F₂ (News.sub N₃ ?_) hd₂ tab'' hm' hd hv l1 (fun q hq => l2 q ?_) l3 hcf
    · intro q hq
      simp only [List.mem_cons, List.mem_append] at hq ⊢
      rcases hq with rfl | rfl | rfl | hq | hq
      · exact .inr (.inl rfl)
      · exact .inr (.inr (.inl rfl))
      · exact .inl rfl
      · exact .inr (.inr (.inr (.inl hq)))
      · exact .inr (.inr (.inr (.inr hq)))
    · simp only [List.mem_cons, List.mem_append] at hq ⊢
      rcases hq with hq | hq
      · exact .inl hq
      · exact .inr (.inr hq)
end

/-- what a def's body, run in its own frame, gives back -/
def Body (w : World) (p : Program) (loose : List Str) (mean : ExcName → Option Value) (mg mb : Str → Option Value) (base : Heap) (qual : Str) (scope : Scope) (f : Addr) (cd : Value) (cl : List (Str × Addr)) (body : List Stmt) (mm : Str → Option Value) (need : Nat) (news : List (Addr × Obj)) (Post : Value → List (Addr × Obj) → Prop) : Prop :=
  ∀ (dp un : Nat) (gd : Option (List Code)) (outer : List Env) (A₀ : Around) (h₀ : Heap) (L : Addr) (s : Shared) (R : Flow → Shared → Prop) (E' : Value → Shared → Prop),
    Below A₀ base outer h₀ → Fr h₀ L s.heap mm → (hd.heap_39 w.params).In h₀ → News h₀ L s.heap news → Top p loose mean mg mb h₀ → CodeHd base 27 23 → CodeHd base 20 16 →
    (∀ q ∈ news, q.1 < L) → dp + need < recursionLimit → un + 10 * need < cLine →
    (∀ fl m' news' h' tk', (match fl with | .ret _ => True | .next => True | _ => False) → Fr h₀ L h' m' → News h₀ L h' news' → Post (match fl with | .ret v => v | _ => .none) news' → R fl { s with heap := h', toks := tk' }) →
    wpAny (model PySem.Challenge.rw_ij0153_01.row.prog w) (ktrTop dp un gd qual scope L f cd cl outer) (execs body (envX qual scope L f cd cl)) R
      (fun e s' => wpAny (model PySem.Challenge.rw_ij0153_01.row.prog w) (ktrTop dp un gd qual scope L f cd cl outer) (leaving (envX qual scope L f cd cl) e) (fun _ s'' => E' e s'') (fun e' s'' => E' e' s'') s') s

section
variable {w : World} {p : Program} {loose : List Str} {mean : ExcName → Option Value} {mg mb : Str → Option Value} {base : Heap} {f : Addr} {vs : List Value} {need : Nat} {news : List (Addr × Obj)} {Post : Value → List (Addr × Obj) → Prop}
  {name qual : Str} {params : Arguments} {body : List Stmt} {scope : Scope} {cl : List (Str × Addr)} {doc pm ctv : Value} {c' : Addr} {oc : Obj} {fs : Array Value} {t : Tok} {binds : List (Str × Value)}
theorem Ctr.nest (hf : (f, fnMade name qual params body scope cl doc pm c' ctv) ∈ news) (hc : (c', oc) ∈ news) (hd : oc.data = .fields fs) (hv : fs[1]? = some (.str qual t))
    (hbind : ∀ s, BindsTo s (fnX name qual params body scope cl .none .none doc pm none (.ref c') ctv) ⟨vs, []⟩ binds) (hloc : ∀ y ∈ binds, scope.names.lookup y.1 = some .local)
    (hco : scope.isCoroutine = false) (hgen : scope.isGenerator = false) (hk : scope.kind = .function) (hcell : ∀ x ∈ scope.names, x.2 ≠ .cell)
    (H : Body w p loose mean mg mb base qual scope f (.ref c') cl body (fun y => binds.reverse.lookup y) need news Post) : Ctr w p loose mean mg mb base f vs (need + 1) news Post := by
  intro dp un gd cn cs a ccd ccl outer A₀ h₀ L m s Q E B F X N T C1 C2 hk' hdp hun ret
  have hcr : s.heap.CodeRec (.ref c') qual := ⟨c', oc, fs, t, rfl, (N _ hc).1, hd, hv⟩
  refine wpAny_call (callX_plain (cl := cl) (env := envX cn cs L a ccd ccl) (outer := outer) (name := name) (params := params) (body := body) (scope := scope) (doc := doc) (pm := pm) (an := none) (dV := .none) (kV := .none) (ct := ctv) (cdv := .ref c') (qual := qual) B F N T.nolimit rfl rfl hk' (N _ hf).1 rfl hcr ?_ (hbind s) hloc (fun g L' h₁ FG F' N' B' st l1 => ?_) hcell hco hgen hk)
  · show dp < recursionLimit
    omega
  · refine H (dp + 1) (un + 3) gd (envX cn cs L a ccd ccl :: outer) _ g L' { s with heap := h₁, toks := s.toks + binds.length } _ _ B' F' (X.keeps st) N' (T.keeps st) C1 C2 l1 (by omega) (by omega) ?_
    intro fl m' news' h' tk' _ F₂ N₂ hP
    exact leaveK_ F₂ N₂ fun F₃ N₃ => ret _ _ _ _ F₃ N₃ hP

theorem Ctr.top {dV kV oc : Value} {an od : Option Addr} {osl : Array (Option Value)} {cdv ct : Value} (ho : (hd.heap_39 w.params).lookup f = some ⟨oc, od, .func (fnOf name qual params body scope dV kV doc pm an cdv ct), osl⟩) (hcd : codeIn (hd.heap_39 w.params) cdv qual = true)
    (hbind : ∀ s, BindsTo s (fnOf name qual params body scope dV kV doc pm an cdv ct) ⟨vs, []⟩ binds) (hloc : ∀ y ∈ binds, scope.names.lookup y.1 = some .local)
    (hco : scope.isCoroutine = false) (hgen : scope.isGenerator = false) (hk : scope.kind = .function) (hcell : ∀ x ∈ scope.names, x.2 ≠ .cell)
    (H : Body w p loose mean mg mb base qual scope f cdv [] body (fun y => binds.reverse.lookup y) need news Post) : Ctr w p loose mean mg mb base f vs (need + 1) news Post := by
  intro dp un gd cn cs a ccd ccl outer A₀ h₀ L m s Q E B F X N T C1 C2 hk' hdp hun ret
  refine wpAny_call (callX_plain (cl := []) (env := envX cn cs L a ccd ccl) (outer := outer) B F N T.nolimit rfl rfl hk' ((X.keeps F.keep) _ _ ho) rfl (codeRec_of (X.keeps F.keep) hcd) ?_ (hbind s) hloc (fun g L' h₁ FG F' N' B' st l1 => ?_) hcell hco hgen hk)
  · show dp < recursionLimit
    omega
  · refine H (dp + 1) (un + 3) gd (envX cn cs L a ccd ccl :: outer) _ g L' { s with heap := h₁, toks := s.toks + binds.length } _ _ B' F' (X.keeps st) N' (T.keeps st) C1 C2 l1 (by omega) (by omega) ?_
    intro fl m' news' h' tk' _ F₂ N₂ hP
    exact leaveK_ F₂ N₂ fun F₃ N₃ => ret _ _ _ _ F₃ N₃ hP

theorem Ctr.topC {dV kV oc : Value} {an od : Option Addr} {osl : Array (Option Value)} {cdv ct : Value} (ho : (hd.heap_39 w.params).lookup f = some ⟨oc, od, .func (fnOf name qual params body scope dV kV doc pm an cdv ct), osl⟩) (hcd : codeIn (hd.heap_39 w.params) cdv qual = true)
    (hbind : ∀ s, BindsTo s (fnOf name qual params body scope dV kV doc pm an cdv ct) ⟨vs, []⟩ binds) (hkind : (binds.all fun y => scope.names.lookup y.1 == some .local || scope.names.lookup y.1 == some .cell) = true)
    (hnd : ((cellsFrom 0 scope.names []).map (·.1)).Nodup)
    (hco : scope.isCoroutine = false) (hgen : scope.isGenerator = false) (hk : scope.kind = .function)
    (H : ∀ L' cells, CellsAre (bindC (envOfC qual scope L' f cdv).kindOf binds fun _ => none) (cellsFrom (L' + 1) scope.names []) cells → (∀ q ∈ news, q.1 < L') →
      ∀ (dp un : Nat) (gd : Option (List Code)) (outer : List Env) (A₀ : Around) (h₀ : Heap) (s : Shared) (R : Flow → Shared → Prop) (E' : Value → Shared → Prop),
    Below A₀ base outer h₀ → Fr h₀ L' s.heap (bindL (envOfC qual scope L' f cdv).kindOf binds fun _ => none) → (hd.heap_39 w.params).In h₀ → News h₀ L' s.heap (cells ++ news) → Top p loose mean mg mb h₀ → CodeHd base 27 23 → CodeHd base 20 16 →
    dp + need < recursionLimit → un + 10 * need < cLine →
    (∀ fl m' news' h' tk', (match fl with | .ret _ => True | .next => True | _ => False) → Fr h₀ L' h' m' → News h₀ L' h' news' → Post (match fl with | .ret v => v | _ => .none) news' → R fl { s with heap := h', toks := tk' }) →
    wpAny (model PySem.Challenge.rw_ij0153_01.row.prog w) (ktrTop dp un gd qual scope L' f cdv (cellsFrom (L' + 1) scope.names []) outer) (execs body (envX qual scope L' f cdv (cellsFrom (L' + 1) scope.names []))) R
      (fun e s' => wpAny (model PySem.Challenge.rw_ij0153_01.row.prog w) (ktrTop dp un gd qual scope L' f cdv (cellsFrom (L' + 1) scope.names []) outer) (leaving (envX qual scope L' f cdv (cellsFrom (L' + 1) scope.names [])) e) (fun _ s'' => E' e s'') (fun e' s'' => E' e' s'') s') s) :
    Ctr w p loose mean mg mb base f vs (need + 1) news Post := by
  intro dp un gd cn cs a ccd ccl outer A₀ h₀ L m s Q E B F X N T C1 C2 hk' hdp hun ret
  refine wpAny_call (callX_cells (env := envX cn cs L a ccd ccl) (outer := outer) B F N T.nolimit rfl rfl hk' ((X.keeps F.keep) _ _ ho) rfl (codeRec_of (X.keeps F.keep) hcd) ?_ (hbind s) (kindsX hkind) hnd (fun g L' h₁ tk cells FG F' N' Y B' st l1 => ?_) hco hgen hk)
  · show dp < recursionLimit
    omega
  · refine H L' cells Y l1 (dp + 1) (un + 3) gd (envX cn cs L a ccd ccl :: outer) _ g { s with heap := h₁, toks := tk } _ _ B' F' (X.keeps st) N' (T.keeps st) C1 C2 (by omega) (by omega) ?_
    intro fl m' news' h' tk' _ F₂ N₂ hP
    exact leaveK_ F₂ N₂ fun F₃ N₃ => ret _ _ _ _ F₃ N₃ hP
end

theorem Ctr.use {w : World} {p : Program} {loose : List Str} {mean : ExcName → Option Value} {mg mb : Str → Option Value} {base : Heap} {f : Addr} {vs : List Value} {need : Nat} {news : List (Addr × Obj)} {Post : Value → List (Addr × Obj) → Prop}
    {dp un : Nat} {gd : Option (List Code)} {cn : Str} {cs : Scope} {a : Addr} {ccd : Value} {cl : List (Str × Addr)} {outer : List Env} {A₀ : Around} {h₀ : Heap} {L : Addr} {m : Str → Option Value} {s : Shared} {Q E : Value → Shared → Prop}
    (C : Ctr w p loose mean mg mb base f vs need news Post)
    (B : Below A₀ base outer h₀) (F : Fr h₀ L s.heap m) (X : (hd.heap_39 w.params).In h₀) (N : News h₀ L s.heap news) (T : Top p loose mean mg mb h₀) (C1 : CodeHd base 27 23) (C2 : CodeHd base 20 16) (hk : cs.kind = .function)
    (hdp : dp + need < recursionLimit) (hun : un + 10 * need < cLine)
    (ret : ∀ r news' h' tk', Fr h₀ L h' m → News h₀ L h' news' → Post r news' → Q r { s with heap := h', toks := tk' }) :
    wpAny (model PySem.Challenge.rw_ij0153_01.row.prog w) (ktrTop dp un gd cn cs L a ccd cl outer) (call (.ref f) vs) Q E s :=
  C _ _ _ _ _ _ _ _ _ _ _ _ _ _ _ _ B F X N T C1 C2 hk hdp hun ret
end Mine
namespace Mine
theorem allLt_all {d : Addr} : ∀ {l : List (Addr × Obj)}, AllLt d l → ∀ q ∈ l, q.1 < d := by
  intro l
  induction l with
  | nil => intro _ q hq; cases hq
  | cons x r ih =>
    intro h q hq
    rcases List.mem_cons.mp hq with rfl | hq
    · exact h.1
    · exact ih h.2 q hq
end Mine
namespace Mine
theorem News.name {P : Prop} {h₀ h : Heap} {L : Addr} {a : Addr × Obj} {rest : List (Addr × Obj)} (N : News h₀ L h (a :: rest)) (k : ∀ nw, nw = a :: rest → a ∈ nw → News h₀ L h nw → P) : P := k _ rfl (.head _) N
end Mine
namespace Mine
/-- a list that the ledger bears -/
theorem news_list {h₀ h : Heap} {L l : Addr} {news : List (Addr × Obj)} {vs : List Value} {nn : Nat} (N : News h₀ L h news) (hm : (l, listOf vs.toArray nn) ∈ news) : h.IsList l vs.toArray := ⟨_, (N _ hm).1, rfl, nn, rfl⟩
end Mine
namespace Mine
theorem ints_replicate (t : Tok) : ∀ k : Nat, IntsAre (List.replicate k (.int 0 t)) (List.replicate k 0)
  | 0 => .nil
  | k + 1 => .cons 0 t (ints_replicate t k)
theorem flat_replicate {α : Type} (v : α) : ∀ k : Nat, (List.replicate k [v]).flatten = List.replicate k v
  | 0 => rfl
  | k + 1 => by rw [List.replicate_succ, List.flatten_cons, flat_replicate v k, List.replicate_succ]; rfl
theorem zeros_mul {prog : Program} {w : World} {A : Around} {E : Value → Shared → Prop} {s : Shared} {h₀ : Heap} {L l : Addr} {m : Str → Option Value} {news : List (Addr × Obj)} {t u : Tok} {nn k : Nat} {x : Int} {Q : Value → Shared → Prop}
    (F : Fr h₀ L s.heap m) (N : News h₀ L s.heap news) (hm : (l, listOf [Value.int 0 t].toArray nn) ∈ news) (e : x = (k : Int)) (hk : k ≤ 256)
    (h : ∀ D h' vs, Fr h₀ L h' m → News h₀ L h' ((D, listOf vs.toArray 0) :: news) → IntsAre vs (List.replicate k 0) → (∀ p ∈ news, p.1 < D) → Q (.ref D) { s with heap := h' }) :
    wpAny (model prog w) A (binaryOp .Mult (.ref l) (.int x u)) Q E s := by
  subst e
  refine KMa.mul F N (vs := [.int 0 t]) ⟨_, (N _ hm).1, rfl, nn, rfl⟩ (by omega) (by omega) (by simpa using hk) (flat_replicate _ _) fun D h' F' N' l1 => ?_
  rw [Int.toNat_natCast] at N'
  exact h D h' _ F' N' (ints_replicate t k) l1
end Mine
namespace Mine
theorem News.pull {P : Prop} {h₀ h : Heap} {L : Addr} {a b c d e x : Addr × Obj} {tl rest : List (Addr × Obj)} (N : News h₀ L h (a :: b :: c :: (tl ++ d :: e :: x :: rest)))
    (k : ∀ nw, nw = a :: b :: c :: (tl ++ d :: e :: rest) → a ∈ nw → News h₀ L h (x :: nw) → P) : P := k _ rfl (.head _) (News.sub N fun q hq => by
  simp only [List.mem_cons, List.mem_append] at hq ⊢
  rcases hq with rfl | rfl | rfl | rfl | hq | rfl | rfl | hq <;> simp [*])
end Mine
end PartB3

section PartB4
open PySem PySem.W PyProof.Rows
namespace Mine
set_option maxRecDepth 100000
set_option maxHeartbeats 8000000
local macro_rules | `(tactic| walk_at "binaryOp LShift int int") => `(tactic| (refine lshift_int_small (by assumption) (by assumption) (by assumption) ?_))
theorem d2i (w : World) (p : Program) (loose : List Str) (mean : ExcName → Option Value) (mg mb : Str → Option Value) (base : Heap) (l : Addr) (vs : List Value) (nn : Nat) (ns : List Int) (hi : IntsAre vs ns) (n : Nat) (hn1 : 1 ≤ n) (hn2 : n ≤ 4)
  (hdg : Digits n ns) (hsz : n * ns.length ≤ 60) (hlen : ns.length ≤ 16) (t : Tok) (ps : Array Value) (rest : List (Addr × Obj)) (hr : ∀ q ∈ rest, q.1 ≠ 23) (hl : l ≠ 23) (tab : TabOK 20 4 (Str.ofString "_digits2int.<locals>.inner") ps rest) :
  Ctr w p loose mean mg mb base 28 [.ref l, .int n t] 40 ((23, tabObj ps) :: (l, listOf vs.toArray nn) :: rest) (fun r news' => (∃ tk, r = .int (val n ns) tk) ∧
    ∃ ps' tl, news' = (23, tabObj ps') :: (l, listOf vs.toArray nn) :: (tl ++ rest) ∧ TabOK 20 4 (Str.ofString "_digits2int.<locals>.inner") ps' (tl ++ rest) ∧ ∀ q ∈ tl, ∀ r ∈ (23, tabObj ps) :: (l, listOf vs.toArray nn) :: rest, r.1 < q.1) := by
  w_on
  w_top on
  refine' Ctr.topC (need := 39) (binds := [(Str.ofString "digits", .ref l), (Str.ofString "n", .int n t)]) ?k1 ?k2 ?k3 ?k4 ?k5 ?k6 ?k7 ?k8 ?_
  case k1 => k_is
  case k2 => k_is
  case k3 => intro s; exact BindsTo.of_eq rfl
  case k4 => exact rfl
  case k5 => decide +kernel
  case k6 => exact rfl
  case k7 => exact rfl
  case k8 => exact rfl
  intro L' cells Y hLt dp un gd outer A₀ h₀ s R E' B F X N T C1 C2 hdp hun ret
  k_cells Y
  rename_i oI oN oD dI dN dD
  replace dI : oI.data = .cell none := dI
  replace dD : oD.data = .cell (some (.ref l)) := dD
  replace dN : oN.data = .cell (some (.int n t)) := dN
  replace F : Fr h₀ L' s.heap (fun _ => none) := F
  have hL1 : ∀ q ∈ (l, listOf vs.toArray nn) :: rest, q.1 ≠ 23 ∧ q.1 < L' := fun q hq => ⟨by
    rcases List.mem_cons.mp hq with rfl | hq
    · exact hl
    · exact hr q hq, hLt q (.tail _ hq)⟩
  have h23 := ltN (hLt _ (.head _))
  dsimp only at h23
  walk1
  k_dflt (refine' defInner (cI := L' + 1 + 1 + 1) (oI := oI) (v₀ := none) (P := 23) (ps := ps) (rest := (L' + 1 + 1, oN) :: (L' + 1, oD) :: (l, listOf vs.toArray nn) :: rest) F (News.sub N ?s1) T ?s2 ?s3 ?s4 ?s5 dI ?s6 ?s7 ?s8 ?s9 ?s10 ?s11 ?s12 ?s13 ?_)
  case s1 =>
    intro q hq
    simp only [List.mem_cons, List.cons_append, List.nil_append] at hq ⊢
    rcases hq with rfl | rfl | rfl | rfl | hq <;> simp [*]
  case s2 => exact C1.keeps B.stays
  case s3 =>
    intro q hq
    simp only [List.mem_cons] at hq
    rcases hq with rfl | rfl | rfl | hq
    · refine neN ?_; dsimp only; omega
    · refine neN ?_; dsimp only; omega
    · refine neN ?_; dsimp only; omega
    · exact (hL1 q (List.mem_cons.mpr hq)).1
  case s4 =>
    intro q hq
    simp only [List.mem_cons] at hq
    rcases hq with rfl | rfl | hq
    · left; refine ltN ?_; dsimp only; omega
    · left; refine ltN ?_; dsimp only; omega
    · left; have := ltN (hL1 q (List.mem_cons.mpr hq)).2; refine ltN ?_; omega
  case s5 => refine ltN ?_; omega
  case s6 => exact tab.mono fun q hq => .tail _ (.tail _ (.tail _ hq))
  case s7 => exact rfl
  case s8 => exact rfl
  case s9 => exact rfl
  case s10 => exact rfl
  case s11 => exact rfl
  case s12 => exact rfl
  case s13 => exact rfl
  intro f oI' c' oc fs t' ctv doc ps' tl h' tk F₂ N₂ dI' tab' hm hdc hvc lt1 lt2 lt3 lt4
  dsimp only
  refine News.name N₂ fun nw hnw hf N₃ => ?_
  clear N₂
  have hc : (c', oc) ∈ nw := by rw [hnw]; exact .tail _ (.tail _ (.tail _ hm))
  have hmI : (L' + 1 + 1 + 1, oI') ∈ nw := by rw [hnw]; exact .tail _ (.tail _ (.head _))
  have hmN : (L' + 1 + 1, oN) ∈ nw := by rw [hnw]; exact .tail _ (.tail _ (.tail _ (List.mem_append.mpr (.inr (.head _)))))
  have hmD : (L' + 1, oD) ∈ nw := by rw [hnw]; exact .tail _ (.tail _ (.tail _ (List.mem_append.mpr (.inr (.tail _ (.head _))))))
  have hml : (l, listOf vs.toArray nn) ∈ nw := by rw [hnw]; exact .tail _ (.tail _ (.tail _ (List.mem_append.mpr (.inr (.tail _ (.tail _ (.head _)))))))
  have inner : ∀ (k : Nat) (x y : Int) (tx ty : Tok), 0 ≤ x → x < y → y ≤ ns.length → (y - x).toNat ≤ k →
      Ctr w p loose mean mg mb base f [.int x tx, .int y ty] (2 * k + 1) nw (fun r news' => news' = nw ∧ ∃ tk, r = .int (val n (seg ns x.toNat y.toNat)) tk) := by
    intro k
    induction k with
    | zero => intro x y tx ty h1 h2 h3 h4; omega
    | succ k ih =>
      intro x y tx ty h1 h2 h3 h4
      refine' Ctr.nest (need := 2 * (k + 1)) (binds := [(Str.ofString "L", .int x tx), (Str.ofString "R", .int y ty)]) hf hc hdc hvc ?k1 ?k2 ?k3 ?k4 ?k5 ?k6 ?_
      case k1 => intro s; exact BindsTo.of_eq rfl
      case k2 => exact locs rfl
      case k3 => exact rfl
      case k4 => exact rfl
      case k5 => exact rfl
      case k6 => decide
      clear F N₃ B F₂ N
      intro dp un gd outer A₀ g L₂ s R E' B F X N T C1 C2 l1 hdp hun ret
      k_steps
      · rename_i hxy t3
        dsimp only
        refine ret (.ret _) _ _ _ _ trivial F N ⟨rfl, t3, ?_⟩
        have e : y.toNat = x.toNat + 1 := by omega
        have hx : x.toNat < ns.length := by omega
        rw [e, seg_one ns hx, List.getD_eq_getElem?_getD, List.getElem?_eq_getElem hx]
        simp only [val, Int.mul_zero, Int.add_zero, Option.getD_some]
      · rename_i hxy h5 h6 F6 N6
        try dsimp only [List.nil_append]
        have hq : (x + y).fdiv (2 ^ Int.toNat 1) = (x + y) / 2 := by rw [Int.fdiv_eq_ediv_of_nonneg _ (by decide)]; rfl
        rw [hq] at F6
        simp only [hq]
        have q1 : x < (x + y) / 2 := by omega
        have q2 : (x + y) / 2 < y := by omega
        generalize (x + y) / 2 = q at *
        have hv := val_bounds n _ (seg_digits hdg q.toNat y.toNat)
        rw [seg_length ns (by omega)] at hv
        have z1 : n * (y.toNat - q.toNat) ≤ n * ns.length := Nat.mul_le_mul (Nat.le_refl _) (by omega)
        have z2 : n * (q.toNat - x.toNat) ≤ n * ns.length := Nat.mul_le_mul (Nat.le_refl _) (by omega)
        have z3 : (2 : Int) ^ (n * (y.toNat - q.toNat)) ≤ 2 ^ 60 := pow2_le (by omega)
        have hv64 : (val n (seg ns q.toNat y.toNat)).natAbs < 2 ^ 64 := by
          have : (2 : Int) ^ 60 = 1152921504606846976 := by decide
          have : (2 : Nat) ^ 64 = 18446744073709551616 := by decide
          omega
        have e1 : (q - x) * (n : Int) = ((n * (q.toNat - x.toNat) : Nat) : Int) := by
          rw [Int.natCast_mul, Int.mul_comm]
          congr 1
          omega
        have sh0 : 0 ≤ (q - x) * (n : Int) := by omega
        have sh1 : (q - x) * (n : Int) ≤ 1000000 := by omega
        refine Ctr.use (ih q y _ _ (by omega) q2 h3 (by omega)) B F6 X N6 T C1 C2 rfl (by omega) (by omega) ?_
        rintro r nw2 h7 tk7 F7 N7 ⟨rfl, t7, rfl⟩
        k_steps
        try dsimp only [List.nil_append]
        refine Ctr.use (ih x q _ _ h1 q1 (by omega) (by omega)) B F7 X N7 T C1 C2 rfl (by omega) (by omega) ?_
        rintro r nw3 h8 tk8 F8 N8 ⟨rfl, t8, rfl⟩
        k_steps
        have hv2 : val n (seg ns x.toNat y.toNat) = val n (seg ns q.toNat y.toNat) * 2 ^ ((q - x) * (n : Int)).toNat + val n (seg ns x.toNat q.toNat) := by
          rw [seg_split ns (i := x.toNat) (m := q.toNat) (j := y.toNat) (by omega) (by omega), val_append, seg_length ns (by omega), e1, Int.toNat_natCast, Int.mul_comm (val n (seg ns q.toNat y.toNat)), Int.add_comm]
        dsimp only
        refine ret (.ret _) _ _ _ _ trivial F8 N8 ⟨rfl, ?_⟩
        rw [hv2]
        exact ⟨_, rfl⟩
  have hsub : ∀ q ∈ (23, tabObj ps') :: (l, listOf vs.toArray nn) :: (tl ++ rest), q ∈ nw := by
    intro q hq
    rw [hnw]
    simp only [List.mem_cons, List.mem_append] at hq ⊢
    rcases hq with rfl | rfl | hq | hq <;> simp [*]
  have htab : TabOK 20 4 (Str.ofString "_digits2int.<locals>.inner") ps' (tl ++ rest) := by
    refine ((tab'.drop ?_).drop ?_).drop ?_
    · intro z hz; rw [dN] at hz; cases hz
    · intro z hz; rw [dD] at hz; cases hz
    · intro z hz; cases hz
  have hltl : ∀ q ∈ tl, ∀ r ∈ (23, tabObj ps) :: (l, listOf vs.toArray nn) :: rest, r.1 < q.1 := fun q hq r hr => lt1 q hq r (by
    simp only [List.mem_cons] at hr ⊢
    rcases hr with rfl | rfl | hr <;> simp [*])
  k_steps
  refine truthy_ints_fit (news_list N₃ hml) hi (by omega) ?_
  by_cases h0 : 0 < ns.length
  · rw [decide_eq_true h0]
    k_steps
    refine len_ints_fit (news_list N₃ hml) hi (by omega) ?_
    k_steps
    try dsimp only [List.nil_append]
    refine Ctr.use (inner ns.length 0 ns.length _ _ (by omega) (by omega) (by omega) (by omega)) B F₂ X N₃ T C1 C2 rfl (by omega) (by omega) ?_
    rintro r nw2 h7 tk7 F7 N7 ⟨rfl, t7, rfl⟩
    dsimp only
    refine ret (.ret _) _ ((23, tabObj ps') :: (l, listOf vs.toArray nn) :: (tl ++ rest)) _ _ trivial F7 (News.sub N7 hsub) ⟨⟨t7, ?_⟩, ps', tl, rfl, htab, hltl⟩
    dsimp only
    rw [Int.toNat_natCast, show Int.toNat 0 = 0 from rfl, seg_all]
  · rw [decide_eq_false h0]
    k_steps
    dsimp only
    have e : ns = [] := by
      cases ns with
      | nil => rfl
      | cons a b => exact absurd (Nat.succ_pos _) h0
    refine ret (.ret _) _ ((23, tabObj ps') :: (l, listOf vs.toArray nn) :: (tl ++ rest)) _ _ trivial F₂ (News.sub N₃ hsub) ⟨?_, ps', tl, rfl, htab, hltl⟩
    rw [e]
    exact ⟨_, rfl⟩
end Mine
end PartB4

section PartB5
open PySem PySem.W PyProof.Rows
namespace Mine
set_option maxRecDepth 100000
set_option maxHeartbeats 8000000
local macro_rules | `(tactic| walk_at "binaryOp LShift int int") => `(tactic| (refine lshift_int_small (by assumption) (by assumption) (by assumption) ?_))
local macro_rules | `(tactic| walk_at "binaryOp RShift int int") => `(tactic| (refine rshift_int (by assumption) ?_))
theorem i2d (w : World) (p : Program) (loose : List Str) (mean : ExcName → Option Value) (mg mb : Str → Option Value) (base : Heap) (a : Int) (n : Nat) (ha0 : 0 ≤ a) (ha1 : a < 2 ^ 30) (hn1 : 2 ≤ n) (hn2 : n ≤ 4)
  (ta t : Tok) (ps : Array Value) (rest : List (Addr × Obj)) (hr : ∀ q ∈ rest, q.1 ≠ 16) (tab : TabOK 5 4 (Str.ofString "_int2digits.<locals>.inner") ps rest) :
  Ctr w p loose mean mg mb base 21 [.int a ta, .int n t] 40 ((16, tabObj ps) :: rest) (fun r news' =>
    ∃ l vs nn ps' tl, r = .ref l ∧ IntsAre vs (digs n a (ndig n a)) ∧ news' = (16, tabObj ps') :: (l, listOf vs.toArray nn) :: (tl ++ rest) ∧ TabOK 5 4 (Str.ofString "_int2digits.<locals>.inner") ps' (tl ++ rest) ∧
      ∀ q ∈ (l, listOf vs.toArray nn) :: tl, ∀ r ∈ (16, tabObj ps) :: rest, r.1 < q.1) := by
  w_on
  w_top on
  refine' Ctr.topC (need := 39) (binds := [(Str.ofString "a", .int a ta), (Str.ofString "n", .int n t)]) ?k1 ?k2 ?k3 ?k4 ?k5 ?k6 ?k7 ?k8 ?_
  case k1 => k_is
  case k2 => k_is
  case k3 => intro s; exact BindsTo.of_eq rfl
  case k4 => exact rfl
  case k5 => decide +kernel
  case k6 => exact rfl
  case k7 => exact rfl
  case k8 => exact rfl
  intro L' cells Y hLt dp un gd outer A₀ h₀ s R E' B F X N T C1 C2 hdp hun ret
  k_cells Y
  rename_i oI oA oN dI dA dN
  replace dI : oI.data = .cell none := dI
  replace dA : oA.data = .cell none := dA
  replace dN : oN.data = .cell (some (.int n t)) := dN
  replace F : Fr h₀ L' s.heap (fun y => if y = Str.ofString "a" then some (.int a ta) else none) := F
  have h16 := ltN (hLt _ (.head _))
  dsimp only at h16
  have hLr : ∀ q ∈ rest, q.1 < L' := fun q hq => hLt q (.tail _ hq)
  simp only [List.cons_append, List.nil_append] at N
  k_steps
  have hbits : Builtin.Int.intBits a ≤ 30 := intBits_le_iff.mpr (by
    have : (2 : Int) ^ 30 = 1073741824 := by decide
    have : (2 : Nat) ^ 30 = 1073741824 := by decide
    omega)
  have hfd : ((Builtin.Int.intBits a : Int) + (n : Int) - 1).fdiv n = (ndig n a : Nat) := by
    unfold ndig
    rw [Int.fdiv_eq_ediv_of_nonneg _ (by omega), Int.natCast_ediv]
    congr 1
    omega
  have hk16 : ndig n a ≤ 16 := by
    unfold ndig
    exact Nat.div_le_of_le_mul (by omega)
  rename Fr _ _ _ _ => F₁
  rename News _ _ _ _ => N₁
  refine zeros_mul (k := ndig n a) F₁ N₁ (.head _) hfd (by omega) ?_
  intro l h₂ vs F₂ N₂ hz lt4
  have lA := ltN (lt4 _ (.tail _ (.tail _ (.head _))))
  dsimp only at lA
  refine storeX_C F₂ (c := L' + 1 + 1) (o := oA) (News.sub N₂ ?s1) rfl (UpdF.head (r := (l, listOf vs.toArray 0) :: (L' + 1 + 1 + 1, oI) :: (L' + 1, oN) :: (16, tabObj ps) :: rest) ?s2) dA (fun h₃ oA' F₃ N₃ dA' => ?_) rfl rfl
  case s1 =>
    intro q hq
    simp only [List.mem_cons] at hq ⊢
    rcases hq with rfl | rfl | rfl | rfl | rfl | hq <;> simp [*]
  case s2 =>
    intro q hq
    simp only [List.mem_cons] at hq
    rcases hq with rfl | rfl | rfl | rfl | hq
    · refine neN ?_; dsimp only; omega
    · refine neN ?_; dsimp only; omega
    · refine neN ?_; dsimp only; omega
    · refine neN ?_; dsimp only; omega
    · have := ltN (hLr q hq); refine neN ?_; omega
  dsimp only
  walk1
  walk1
  have ltl : ∀ q ∈ rest, q.1 < l := fun q hq => lt4 q (.tail _ (.tail _ (.tail _ (.tail _ (.tail _ hq)))))
  have l16 : 16 < l := lt4 (16, _) (.tail _ (.tail _ (.tail _ (.tail _ (.head _)))))
  have lI : L' + 1 + 1 + 1 < l := lt4 (L' + 1 + 1 + 1, _) (.tail _ (.head _))
  k_dflt (refine' defInner (cI := L' + 1 + 1 + 1) (oI := oI) (v₀ := none) (P := 16) (ps := ps) (rest := (L' + 1 + 1, oA') :: (L' + 1, oN) :: (l, listOf vs.toArray 0) :: rest) ?sF ?sN T ?s2 ?s3 ?s4 ?s5 dI ?s6 ?s7 ?s8 ?s9 ?s10 ?s11 ?s12 ?s13 ?_)
  case sF => exact F₃
  case sN =>
    refine News.sub N₃ ?_
    intro q hq
    simp only [List.mem_cons] at hq ⊢
    rcases hq with rfl | rfl | rfl | rfl | rfl | hq <;> simp [*]
  case s2 => exact C2.keeps B.stays
  case s3 =>
    intro q hq
    simp only [List.mem_cons] at hq
    rcases hq with rfl | rfl | rfl | rfl | hq
    · refine neN ?_; dsimp only; omega
    · refine neN ?_; dsimp only; omega
    · refine neN ?_; dsimp only; omega
    · exact Nat.ne_of_gt l16
    · exact hr q hq
  case s4 =>
    intro q hq
    simp only [List.mem_cons] at hq
    rcases hq with rfl | rfl | rfl | hq
    · left; refine ltN ?_; dsimp only; omega
    · left; refine ltN ?_; dsimp only; omega
    · right; exact lI
    · left; have := ltN (hLr q hq); refine ltN ?_; omega
  case s5 => refine ltN ?_; omega
  case s6 => exact tab.mono fun q hq => .tail _ (.tail _ (.tail _ hq))
  case s7 => exact rfl
  case s8 => exact rfl
  case s9 => exact rfl
  case s10 => exact rfl
  case s11 => exact rfl
  case s12 => exact rfl
  case s13 => exact rfl
  intro f oI' c' oc fs t' ctv doc ps' tl h' tk F₄ N₄ dI' tab' hm hdc hvc lt1 lt2 lt3 lt5
  dsimp only
  have hnk : n * ndig n a ≤ 33 := Nat.le_trans (Nat.mul_div_le _ n) (by omega)
  refine News.pull N₄ fun nw hnw hf N₅ => ?_
  clear N₄ N₃ N₂ N₁
  have hc : (c', oc) ∈ nw := by
    rw [hnw]
    simp only [List.mem_cons, List.mem_append] at hm ⊢
    rcases hm with hm | hm | hm | hm | hm
    · simp [hm]
    · simp [hm]
    · simp [hm]
    · cases hm; cases hdc
    · simp [hm]
  have hmI : (L' + 1 + 1 + 1, oI') ∈ nw := by rw [hnw]; exact .tail _ (.tail _ (.head _))
  have hmA : (L' + 1 + 1, oA') ∈ nw := by rw [hnw]; exact .tail _ (.tail _ (.tail _ (List.mem_append.mpr (.inr (.head _)))))
  have hmN : (L' + 1, oN) ∈ nw := by rw [hnw]; exact .tail _ (.tail _ (.tail _ (List.mem_append.mpr (.inr (.tail _ (.head _))))))
  have hne : ∀ q ∈ nw, q.1 ≠ l := by
    intro q hq
    rw [hnw] at hq
    simp only [List.mem_cons, List.mem_append] at hq
    rcases hq with rfl | rfl | rfl | hq | rfl | rfl | hq
    · exact Nat.ne_of_gt (lt2 (l, listOf vs.toArray 0) (List.mem_append.mpr (.inr (.tail _ (.tail _ (.head _))))))
    · exact Nat.ne_of_lt l16
    · exact Nat.ne_of_lt lI
    · exact Nat.ne_of_gt (lt1 q hq (l, listOf vs.toArray 0) (.tail _ (.tail _ (.tail _ (.tail _ (.head _))))))
    · exact Nat.ne_of_lt lA
    · exact Nat.ne_of_lt (lt4 (L' + 1, _) (.tail _ (.tail _ (.tail _ (.head _)))))
    · exact Nat.ne_of_lt (ltl q hq)
  have inner : ∀ (k : Nat) (us : List Value) (ms : List Int) (z x y : Int) (tz tx ty : Tok), IntsAre us ms → ms.length = ndig n a → 0 ≤ z → z < 2 ^ (n * (y - x).toNat) → 0 ≤ x → x < y → y ≤ ndig n a → (y - x).toNat ≤ k →
      Ctr w p loose mean mg mb base f [.int z tz, .int x tx, .int y ty] (2 * k + 1) ((l, listOf us.toArray 0) :: nw) (fun r news' => r = .none ∧ ∃ us', IntsAre us' (upd n ms x.toNat y.toNat z) ∧ news' = (l, listOf us'.toArray 0) :: nw) := by
    intro k
    induction k with
    | zero => intro us ms z x y tz tx ty h1 h2 h3 h4 h5 h6 h7 h8; omega
    | succ k ih =>
      intro us ms z x y tz tx ty hu hml hz0 hz1 h1 h2 h3 h4
      refine' Ctr.nest (need := 2 * (k + 1)) (binds := [(Str.ofString "x", .int z tz), (Str.ofString "L", .int x tx), (Str.ofString "R", .int y ty)]) (.tail _ hf) (.tail _ hc) hdc hvc ?k1 ?k2 ?k3 ?k4 ?k5 ?k6 ?_
      case k1 => intro s; exact BindsTo.of_eq rfl
      case k2 => exact locs rfl
      case k3 => exact rfl
      case k4 => exact rfl
      case k5 => exact rfl
      case k6 => decide
      clear F₁ F₂ F₃ F₄ N₅ B
      intro dp un gd outer A₀ g L₂ s R E' B F X N T C1 C2 l1 hdp hun ret
      have hmI' := List.mem_cons_of_mem (l, listOf us.toArray 0) hmI
      have hmA' := List.mem_cons_of_mem (l, listOf us.toArray 0) hmA
      have hmN' := List.mem_cons_of_mem (l, listOf us.toArray 0) hmN
      have hf' := List.mem_cons_of_mem (l, listOf us.toArray 0) hf
      have hq : (x + y).fdiv (2 ^ Int.toNat 1) = (x + y) / 2 := by rw [Int.fdiv_eq_ediv_of_nonneg _ (by decide)]; rfl
      have e1 : ((x + y) / 2 - x) * (n : Int) = ((n * (((x + y) / 2).toNat - x.toNat) : Nat) : Int) := by
        rw [Int.natCast_mul, Int.mul_comm]
        congr 1
        omega
      have z1 : n * (y.toNat - x.toNat) ≤ n * ndig n a := Nat.mul_le_mul (Nat.le_refl _) (by omega)
      have z2 : n * (((x + y) / 2).toNat - x.toNat) ≤ n * ndig n a := Nat.mul_le_mul (Nat.le_refl _) (by omega)
      have hxy : (y - x).toNat = y.toNat - x.toNat := by omega
      rw [hxy] at hz1
      have hz33 : z < 2 ^ 33 := Int.lt_of_lt_of_le hz1 (pow2_le (by omega))
      have sh0 : 0 ≤ ((x + y).fdiv (2 ^ Int.toNat 1) - x) * (n : Int) := by rw [hq]; omega
      have sh1 : ((x + y).fdiv (2 ^ Int.toNat 1) - x) * (n : Int) ≤ 1000000 := by rw [hq]; omega
      have hs : (((x + y).fdiv (2 ^ Int.toNat 1) - x) * (n : Int)).toNat = n * (((x + y) / 2).toNat - x.toNat) := by rw [hq, e1, Int.toNat_natCast]
      have hup : z.fdiv (2 ^ (((x + y).fdiv (2 ^ Int.toNat 1) - x) * (n : Int)).toNat) = z / 2 ^ (n * (((x + y) / 2).toNat - x.toNat)) := by
        rw [hs, Int.fdiv_eq_ediv_of_nonneg _ (Int.le_of_lt (pow2_pos _))]
      have up0 : 0 ≤ z / 2 ^ (n * (((x + y) / 2).toNat - x.toNat)) := Int.ediv_nonneg hz0 (Int.le_of_lt (pow2_pos _))
      have up1 : z / 2 ^ (n * (((x + y) / 2).toNat - x.toNat)) ≤ z := Int.ediv_le_self _ hz0
      have up64 : (z.fdiv (2 ^ (((x + y).fdiv (2 ^ Int.toNat 1) - x) * (n : Int)).toNat)).natAbs < 2 ^ 64 := by
        rw [hup]
        have : (2 : Int) ^ 33 = 8589934592 := by decide
        have : (2 : Nat) ^ 64 = 18446744073709551616 := by decide
        omega
      have hlo : Builtin.bitXor z (z.fdiv (2 ^ (((x + y).fdiv (2 ^ Int.toNat 1) - x) * (n : Int)).toNat) * 2 ^ (((x + y).fdiv (2 ^ Int.toNat 1) - x) * (n : Int)).toNat) = z % 2 ^ (n * (((x + y) / 2).toNat - x.toNat)) := by
        rw [hup, hs, xor_high hz0]
      k_steps
      · rename_i hxy' _
        have p63 : (2 : Int) ^ 63 = 9223372036854775808 := by decide
        refine' ksa_set (ns := ms) ?sF ?sN (Upd.head hne) hu h1 (by omega) (by omega) ?_
        case sF => exact F
        case sN => exact N
        intro h5 F5 N5 hi5 _ _
        k_steps
        dsimp only
        refine ret (.ret _) _ _ _ _ trivial F5 N5 ⟨rfl, _, ?_, rfl⟩
        have e : y.toNat = x.toNat + 1 := by omega
        rw [e] at hz1 ⊢
        rw [Nat.add_sub_cancel_left, Nat.mul_one] at hz1
        rw [upd_one (by omega) hz0 hz1]
        exact hi5
      · rename Fr _ _ _ _ => F6
        rename News _ _ _ _ => N6
        rename x + 1 ≠ y => hxy'
        try dsimp only [List.nil_append]
        rw [hlo, hup, hq] at F6
        rw [hlo, hq]
        have q1 : x < (x + y) / 2 := by omega
        have q2 : (x + y) / 2 < y := by omega
        clear hlo hup sh0 sh1 up64
        generalize (x + y) / 2 = q at *
        have hqx : (q - x).toNat = q.toNat - x.toNat := by omega
        have hyq : (y - q).toNat = y.toNat - q.toNat := by omega
        have pm := pow2_pos (n * (q.toNat - x.toNat))
        refine Ctr.use (ih us ms (z % 2 ^ (n * (q.toNat - x.toNat))) x q _ _ _ hu hml (Int.emod_nonneg _ (by omega)) (by rw [hqx]; exact Int.emod_lt_of_pos _ pm) h1 q1 (by omega) (by omega)) B F6 X N6 T C1 C2 rfl (by omega) (by omega) ?_
        rintro r nw2 h7 tk7 F7 N7 ⟨rfl, us2, hu2, rfl⟩
        clear hmI' hmA' hmN' hf'
        have hf2 := List.mem_cons_of_mem (l, listOf us2.toArray 0) hf
        have hmI2 := List.mem_cons_of_mem (l, listOf us2.toArray 0) hmI
        have hmA2 := List.mem_cons_of_mem (l, listOf us2.toArray 0) hmA
        have hmN2 := List.mem_cons_of_mem (l, listOf us2.toArray 0) hmN
        k_steps
        try dsimp only [List.nil_append]
        have hml2 : (upd n ms x.toNat q.toNat (z % 2 ^ (n * (q.toNat - x.toNat)))).length = ndig n a := by rw [upd_length n ms _ (by omega) (by omega), hml]
        have hz2 : z / 2 ^ (n * (q.toNat - x.toNat)) < 2 ^ (n * (y - q).toNat) := by
          apply Int.ediv_lt_of_lt_mul pm
          rw [← Int.pow_add, ← Nat.mul_add, hyq]
          have : y.toNat - q.toNat + (q.toNat - x.toNat) = y.toNat - x.toNat := by omega
          rw [this]
          exact hz1
        clear hf2 hmI2 hmA2 hmN2
        refine Ctr.use (ih us2 _ (z / 2 ^ (n * (q.toNat - x.toNat))) q y _ _ _ hu2 hml2 up0 hz2 (by omega) q2 (by omega) (by omega)) B F7 X N7 T C1 C2 rfl (by omega) (by omega) ?_
        rintro r nw3 h8 tk8 F8 N8 ⟨rfl, us3, hu3, rfl⟩
        k_steps
        dsimp only
        rw [upd_two n ms z (by omega) (by omega) (by omega)] at hu3
        exact ret .next _ _ _ _ trivial F8 N8 ⟨rfl, us3, hu3, rfl⟩
  have hlz : (List.replicate (ndig n a) (0 : Int)).length = ndig n a := List.length_replicate
  have hsub : ∀ us : List Value, ∀ q ∈ (16, tabObj ps') :: (l, listOf us.toArray 0) :: (tl ++ rest), q ∈ (l, listOf us.toArray 0) :: nw := by
    intro us q hq
    rw [hnw]
    simp only [List.mem_cons, List.mem_append] at hq ⊢
    rcases hq with rfl | rfl | hq | hq <;> simp [*]
  have htab : TabOK 5 4 (Str.ofString "_int2digits.<locals>.inner") ps' (tl ++ rest) := by
    refine ((tab'.drop ?_).drop ?_).drop ?_
    · intro z hz; rw [dA'] at hz; cases hz
    · intro z hz; rw [dN] at hz; cases hz
    · intro z hz; cases hz
  have hltl : ∀ us : List Value, ∀ q ∈ (l, listOf us.toArray 0) :: tl, ∀ r ∈ (16, tabObj ps) :: rest, r.1 < q.1 := by
    intro us q hq r hr
    rcases List.mem_cons.mp hq with rfl | hq
    · rcases List.mem_cons.mp hr with rfl | hr
      · exact l16
      · exact ltl r hr
    · refine lt1 q hq r ?_
      simp only [List.mem_cons] at hr ⊢
      rcases hr with rfl | hr <;> simp [*]
  have hmA' := List.mem_cons_of_mem (l, listOf vs.toArray 0) hmA
  have hmI' := List.mem_cons_of_mem (l, listOf vs.toArray 0) hmI
  have hf' := List.mem_cons_of_mem (l, listOf vs.toArray 0) hf
  k_steps
  · rename a ≠ 0 => ha
    try dsimp only [List.nil_append]
    rw [hlz]
    have hp := ndig_pos (n := n) (a := a) (by omega) ha
    refine Ctr.use (inner (ndig n a) vs _ a 0 (ndig n a) _ _ _ hz hlz ha0 (by rw [Int.sub_zero, Int.toNat_natCast]; exact ndig_lt (by omega) ha0) (by omega) (by omega) (by omega) (by omega)) B F₄ X N₅ T C1 C2 rfl (by omega) (by omega) ?_
    rintro r nw2 h7 tk7 F7 N7 ⟨rfl, us2, hu2, rfl⟩
    clear hmA' hmI' hf'
    have hmA' := List.mem_cons_of_mem (l, listOf us2.toArray 0) hmA
    k_steps
    dsimp only
    have e := upd_all n (List.replicate (ndig n a) 0) a
    rw [hlz] at e
    rw [show Int.toNat 0 = 0 from rfl, Int.toNat_natCast, e] at hu2
    exact ret (.ret _) _ _ _ _ trivial F7 (News.sub N7 (hsub us2)) ⟨l, us2, 0, ps', tl, rfl, hu2, rfl, htab, hltl us2⟩
  · rename a = 0 => ha
    dsimp only
    refine ret (.ret _) _ _ _ _ trivial F₄ (News.sub N₅ (hsub vs)) ⟨l, vs, 0, ps', tl, rfl, ?_, rfl, htab, hltl vs⟩
    rw [ha, ndig_zero (by omega)] at hz ⊢
    exact hz
end Mine
end PartB5

section PartF1
set_option maxRecDepth 100000
namespace Mine
open PySem PySem.W PySem.Calls PyProof.Rows Builtin Builtin.ObjectAttr

theorem slot_wd_get : Slot "wrapper_descriptor" "__get__" "wrapper_descriptor.__get__" :=
  .of (owner := "wrapper_descriptor") (n := "__get__") (by rw [typeLookup_type, builtinLookup_eq_fast]; kernel_rfl) (by decide +kernel) (by decide +kernel) (by decide +kernel)
    (by first | exact .inl (by decide +kernel) | exact .inr (by decide +kernel)) (by rw [isSubtype_type]; kernel_rfl)
theorem no_wd_set : typeLookup (.type "wrapper_descriptor") "__set__" = pure none := by rw [typeLookup_type, builtinLookup_eq_fast]; kernel_rfl
theorem no_wd_delete : typeLookup (.type "wrapper_descriptor") "__delete__" = pure none := by rw [typeLookup_type, builtinLookup_eq_fast]; kernel_rfl
theorem entry_wd_get : entryFor table "wrapper_descriptor.__get__" = some Builtin.«wrapper_descriptor.__get__» := entryFor_of_tree (by kernel_rfl)
theorem args_wd_get (a b c : Value) : argsOk "wrapper_descriptor.__get__" ⟨[a, b, c], []⟩ := by unfold argsOk; kernel_rfl
theorem type_list_contains : typeOf (.builtin "list.__contains__") = pure (.type "wrapper_descriptor") := by kernel_rfl
theorem sub_list_list : isSubtype (.type "list") (.type (".".intercalate ("list.__contains__".cutAt '.').dropLast)) = pure true := by
  have e0 : "list.__contains__".cutAt '.' = ["list", "__contains__"] := by first | rfl | decide +kernel
  rw [e0, show (".".intercalate (["list", "__contains__"] : List String).dropLast) = "list" by decide +kernel, isSubtype_type]; kernel_rfl

section
variable {prog : Program} {w : World} {A : Around} {E : Value → Shared → Prop} {h : Heap} {g : Array GenState} {d : Drawn} {t : Nat} {os : OsState} {a : Addr} {o : Obj}

abbrev wrapObj (a : Addr) : Obj := { cls := .type "method-wrapper", data := .fields #[.builtin "list.__contains__", .ref a] }

theorem wd_get {R : Result → Shared → Prop} (hx : h.get? a = some o) (hc : o.cls = .type "list") (hq : R (.ok (.ret (.ref h.objs.size))) ⟨h.push (wrapObj a), g, d, t, os⟩) :
    codeAny (model prog w) A (.call (.builtin "wrapper_descriptor.__get__") ⟨[.builtin "list.__contains__", .ref a, .type "list"], []⟩) R ⟨h, g, d, t, os⟩ := by
  have hT : (⟨h, g, d, t, os⟩ : Shared).TypeIs (.ref a) "list" := ⟨_, hx, hc⟩
  have hT5 : (⟨h, g, d, t, os⟩ : Shared).TypeIs (.builtin "list.__contains__") "wrapper_descriptor" := type_list_contains
  have f8 := sub_list_list
  refine codeAny_call_builtin slot_wd_get.plain entry_wd_get (slot_wd_get.check _ _ _ _ _ _ _ _ hT5 (args_wd_get _ _ _) ?_)
  repeat (any_goals (first | assumption | wp_step))

theorem contains_entry {tk : Tok} {Q : Fin → Shared → Prop} {xs : Array Value} {k : Nat} (hx : h.get? a = some (listOf xs k)) (hq : Q (.done (.ret (.ref h.objs.size))) ⟨h.push (wrapObj a), g, d, t, os⟩) :
    wpAny (model prog w) A (Builtin.«object.__getattribute__» ⟨[.ref a, .str "__contains__" tk], []⟩) Q E ⟨h, g, d, t, os⟩ := by
  have hT : (⟨h, g, d, t, os⟩ : Shared).TypeIs (.ref a) "list" := ⟨_, hx, rfl⟩
  have hT5 : (⟨h, g, d, t, os⟩ : Shared).TypeIs (.builtin "list.__contains__") "wrapper_descriptor" := type_list_contains
  have f4 := F.slot_list_contains.lookup
  have f5 := type_list_contains
  have f6 := slot_wd_get.lookup
  have f7 := no_wd_set
  have f9 := no_wd_delete
  repeat (any_goals (first | assumption | wp_step))
  refine wd_get hx rfl ?_
  repeat (any_goals (first | assumption | wp_step))

theorem contains_call {tk : Tok} {R : Result → Shared → Prop} {xs : Array Value} {k : Nat} (hx : h.get? a = some (listOf xs k)) (hq : R (.ok (.ret (.ref h.objs.size))) ⟨h.push (wrapObj a), g, d, t, os⟩) :
    codeAny (model prog w) A (.call (.builtin "list.__getattribute__") ⟨[.ref a, .str "__contains__" tk], []⟩) R ⟨h, g, d, t, os⟩ :=
  codeAny_call_builtin F.slot_list_getattribute.plain F.entry_list_ga (F.slot_list_getattribute.check _ _ _ _ _ _ _ _ (show (⟨h, g, d, t, os⟩ : Shared).TypeIs (.ref a) "list" from ⟨_, hx, rfl⟩) (F.args_list_getattribute_2 _ _) (contains_entry hx hq))

theorem contains_attr {expr : Bool} {Q : Value → Shared → Prop} {xs : Array Value} {k : Nat} (hx : h.get? a = some (listOf xs k)) (hq : Q (.ref h.objs.size) ⟨h.push (wrapObj a), g, d, t + 1, os⟩) : wpAny (model prog w) A (getAttr (.ref a) "__contains__" expr) Q E ⟨h, g, d, t, os⟩ := by
  have hT : ∀ tk, (⟨h, g, d, tk, os⟩ : Shared).TypeIs (.ref a) "list" := fun tk => ⟨_, hx, rfl⟩
  have f2 := F.slot_list_getattribute.lookup
  have f3 := F.slot_list_getattribute.bind (.ref a)
  unfold getAttr
  repeat (any_goals (first | assumption | wp_step))
  simp only [onTheHeap, Bool.and_false, Bool.false_eq_true, if_false]
  repeat (any_goals (first | assumption | wp_step))
  refine contains_call hx ?_
  repeat (any_goals (first | assumption | wp_step))
end

end Mine
end PartF1

section PartF2
set_option maxRecDepth 100000
namespace Mine
open PySem PySem.W PySem.Calls PyProof.Rows Builtin Builtin.ObjectAttr
theorem check_contains {l : Addr} {x : Int} {u : Tok} : checkBoundCall "list.__contains__" ⟨[.ref l, .int x u], []⟩ = pure () := by first | kernel_rfl | rfl
theorem plain_contains : plainId "list.__contains__" = true := by decide +kernel

theorem call_wrap {prog : Program} {w : World} {A : Around} {E : Value → Shared → Prop} {s : Shared} {q l : Addr} {vs : List Value} {nn : Nat} {ns : List Int} {x : Int} {u : Tok} {Q : Value → Shared → Prop}
    (hq : s.heap.get? q = some (wrapObj l)) (hl : s.heap.get? l = some (listOf vs.toArray nn)) (hi : IntsAre vs ns) (h : Q (.bool (ns.contains x)) s) : wpAny (model prog w) A (call (.ref q) [.int x u]) Q E s := by
  refine wpAny_call (codeAny_of_tree ?_)
  show wpAny _ A.in1 (callAny (.ref q) ⟨[.int x u], []⟩) _ _ s
  simp only [callAny]
  refine wpAny_bind (wpAny_load hq ?_)
  simp only [show (Value.type "method-wrapper" == Value.type "method" || Value.type "method-wrapper" == Value.type "builtin_function_or_method" || Value.type "method-wrapper" == Value.type "method-wrapper") = true by decide, if_true]
  show wpAny _ _ (if (Value.type "method-wrapper" != Value.type "method") = true then (do
      checkBoundCall "list.__contains__" (Args.mk [.ref l, Value.int x u] [])
      again (Code.builtin "list.__contains__" (Args.mk [.ref l, Value.int x u] []))) else again (Code.call (.builtin "list.__contains__") (Args.mk [.ref l, Value.int x u] []))) _ _ _
  rw [if_pos (by decide)]
  refine wpAny_bind ?_
  rw [check_contains]
  refine wpAny_pure (wpAny_pure ?_)
  refine ⟨plainId_quiet plain_contains _, codeAny_builtin F.entry_list_contains ?_⟩
  rw [Around.under_plainId plain_contains _]
  refine MeetsSeq.list_contains l vs.toArray nn (.int x u) (isInt x) (fun y hy => eq_isInt x u hi y (by simpa using hy)) prog w A _ s ⟨hl, ?_⟩
  rw [← Array.any_toList, show vs.toArray.toList = vs from rfl, any_isInt x hi]
  have e : ns.any (· == x) = ns.contains x := by
    rw [List.contains_eq_any_beq]
    congr 1
    funext y
    exact Bool.eq_iff_iff.mpr ⟨fun h => by simp at h ⊢; exact h.symm, fun h => by simp at h ⊢; exact h.symm⟩
  rw [e]
  exact h
end Mine
end PartF2

section PartF3
set_option maxRecDepth 100000
namespace Mine
open PySem PySem.W PySem.Calls PyProof.Rows

section
variable {prog : Program} {w : World} {A : Around} {E : Value → Shared → Prop} {s : Shared} {h₀ : Heap} {L l q : Addr} {m : Str → Option Value} {news : List (Addr × Obj)} {vs : List Value} {nn : Nat} {ns : List Int} {x : Int} {u : Tok}

/-- a list's own bound __contains__ -/
theorem attr_contains {expr : Bool} {Q : Value → Shared → Prop} (F : Fr h₀ L s.heap m) (N : News h₀ L s.heap news) (hm : (l, listOf vs.toArray nn) ∈ news)
    (h : ∀ q h', Fr h₀ L h' m → News h₀ L h' ((q, wrapObj l) :: news) → (∀ p ∈ news, p.1 < q) → Q (.ref q) { s with heap := h', toks := s.toks + 1 }) : wpAny (model prog w) A (getAttr (.ref l) "__contains__" expr) Q E s := by
  obtain ⟨hp, g, d, tk, os⟩ := s
  exact contains_attr (N _ hm).1 (h _ _ (F.push _) (N.push F _) fun p hp => Heap.lt_size (N p hp).1)

def WrapAt (q l : Addr) (h : Heap) : Prop := h.get? q = some (wrapObj l)
theorem keeps_W {M : Model} (h : Heap) (X : WrapAt q l h) : ∃ k, (k = Keeper.frame ∨ k = Keeper.machine ∨ k = Keeper.boundFrame) ∧ Looks M h (keeperOf (.ref q)) k :=
  ⟨.machine, .inr (.inl rfl), (Looks.ld (part := none) X).andThen .now⟩
theorem callWith_W {env : Env} {pos : Pos} {first : List Value} {e : Expr} {rest : List Expr} {Q : Value → Shared → Prop} (h : wpAny (model prog w) A (spliced (backTo pos (starEach (e :: rest) env))) (fun vs s₁ => WrapAt q l s₁.heap ∧ wpAny (model prog w) A (call (.ref q) (first ++ vs)) Q E s₁) E s)
    (he : starEach (e :: rest) env = (false, eval e env) :: starEach rest env := by rfl) (hplain : (backTo pos (starEach rest env)).any (·.1) = false := by rfl) :
    wpAny (model prog w) A (callWith pos (.ref q) first (backTo pos (starEach (e :: rest) env)) []) Q E s := by
  rw [he] at h ⊢
  exact callWith_of (by show ((false || (backTo pos (starEach rest env)).any (·.1)) || false) = false; rw [hplain]; rfl) keeps_W (evalArgs_plain h)
end
end Mine
end PartF3

section PartF4
set_option maxRecDepth 100000
namespace Mine
open PySem PySem.W PySem.Calls PyProof.Rows

abbrev iterObj (l : Addr) (i : Nat) : Obj := { cls := .type "list_iterator", data := .fields #[.ref l, .int i 0] }

section
variable {prog : Program} {w : World} {A : Around} {E : Value → Shared → Prop} {s : Shared} {h₀ : Heap} {L l it : Addr} {m : Str → Option Value} {rest : List (Addr × Obj)} {vs : List Value} {nn i : Nat} {x : Value} {Q : Value → Shared → Prop}

theorem iter_list (F : Fr h₀ L s.heap m) {news : List (Addr × Obj)} (N : News h₀ L s.heap news) (hm : (l, listOf vs.toArray nn) ∈ news)
    (h : ∀ it h', Fr h₀ L h' m → News h₀ L h' ((it, iterObj l 0) :: news) → (∀ p ∈ news, p.1 < it) → Q (.ref it) { s with heap := h' }) : wpAny (model prog w) A (call (.builtin "iter") [.ref l]) Q E s := by
  have hl : s.heap.IsList l vs.toArray := ⟨_, (N _ hm).1, rfl, nn, rfl⟩
  refine call_function_entry (by decide +kernel) (by decide +kernel) kdk_entry_iter (kdk_args_iter _) ?_
  unfold Builtin.«iter»
  refine wpAny_bind (m := someArgs "iter" 1 2 _) (wpAny_of_eq (a := [Value.ref l]) (by first | rfl | kernel_rfl!) ?_)
  show wpAny _ _ (pyIter (.ref l) >>= _) _ _ _
  refine wpAny_bind (wpAny_pyIter_list hl ?_)
  exact wpAny_pure ⟨_, rfl, h _ _ (F.push _) (News.push F N _ rfl) (fun q hq => Heap.lt_size (N q hq).1)⟩

theorem next_item (F : Fr h₀ L s.heap m) (N : News h₀ L s.heap ((it, iterObj l i) :: rest)) (hne : ∀ q ∈ rest, q.1 ≠ it) (hm : (l, listOf vs.toArray nn) ∈ rest) (hx : vs[i]? = some x)
    (h : ∀ h', Fr h₀ L h' m → News h₀ L h' ((it, iterObj l (i + 1)) :: rest) → Q x { s with heap := h' }) : wpAny (model prog w) A (call (.builtin "next") [.ref it]) Q E s := by
  have hi := N (it, iterObj l i) (.head _)
  have hit : s.heap.IsListIter it l i := ⟨_, hi.1, rfl, rfl⟩
  have hol := (N _ (.tail _ hm)).1
  refine call_function_entry (by decide +kernel) (by decide +kernel) kdk_entry_next (kdk_args_next _) ?_
  unfold Builtin.«next»
  refine wpAny_bind (m := someArgs "next" 1 2 _) (wpAny_of_eq (a := [Value.ref it]) (by first | rfl | kernel_rfl!) ?_)
  dsimp only
  refine wpAny_bind (wpAny_specialOf (name := Str.ofString "__next__") hit.typeIs slot_listiter_next.lookup ?_)
  refine wpAny_ite_split (fun hab => absurd hab (by decide)) (fun _ => ?_)
  refine wpAny_bind (wpAny_callSpecial?_slot (name := Str.ofString "__next__") hit.typeIs slot_listiter_next
    (wpAny_call_entry slot_listiter_next hit.typeIs entry_listiter_next ?_ (args_listiter_next _)))
  show wpAny _ _ (field (.ref it) 0 >>= _) _ _ s
  refine wpAny_bind (wpAny_field hi.1 rfl (x := .ref l) rfl ?_)
  show wpAny _ _ (if (Value.ref l == Value.none) = true then _ else _) _ _ s
  rw [if_neg (show ¬ ((Value.ref l == Value.none) = true) from Bool.false_ne_true)]
  show wpAny _ _ (field (.ref it) 1 >>= _) _ _ s
  refine wpAny_bind (wpAny_field hi.1 rfl (x := .int i 0) rfl ?_)
  show wpAny _ _ (seqItems? (.ref l) >>= _) _ _ s
  refine wpAny_bind (wpAny_seqItems hol rfl ?_)
  have hx' : vs.toArray[i]? = some x := by simpa using hx
  simp only [Int.toNat_natCast, hx']
  refine wpAny_bind (wpAny_setField hi.1 rfl (by simp) (wpAny_pure ⟨x, rfl, ?_⟩))
  obtain ⟨U1, U2⟩ := news_upd (pre := []) (o' := iterObj l (i + 1)) (f := Obj.mapFields (·.setIfInBounds 1 (rawInt ((i : Int) + 1)))) F N (fun _ h => nomatch h) hne rfl rfl
  exact wpAny_pure ⟨_, rfl, h _ U1 U2⟩

theorem next_end (hh : A.handled = none) (F : Fr h₀ L s.heap m) (N : News h₀ L s.heap ((it, iterObj l i) :: rest)) (hne : ∀ q ∈ rest, q.1 ≠ it) (hm : (l, listOf vs.toArray nn) ∈ rest) (hx : vs[i]? = none)
    (h : ∀ h₁ h' e, Fr h₀ L h₁ m → News h₀ L h₁ rest → Heap.MadeExcOf h₁ h' e (.type "StopIteration") [] → E (.ref e) { s with heap := h' }) : wpAny (model prog w) A (call (.builtin "next") [.ref it]) Q E s := by
  have hi := N (it, iterObj l i) (.head _)
  have hit : s.heap.IsListIter it l i := ⟨_, hi.1, rfl, rfl⟩
  have hol := (N _ (.tail _ hm)).1
  refine call_function_entry (by decide +kernel) (by decide +kernel) kdk_entry_next (kdk_args_next _) ?_
  unfold Builtin.«next»
  refine wpAny_bind (m := someArgs "next" 1 2 _) (wpAny_of_eq (a := [Value.ref it]) (by first | rfl | kernel_rfl!) ?_)
  dsimp only
  refine wpAny_bind (wpAny_specialOf (name := Str.ofString "__next__") hit.typeIs slot_listiter_next.lookup ?_)
  refine wpAny_ite_split (fun hab => absurd hab (by decide)) (fun _ => ?_)
  refine wpAny_bind (wpAny_callSpecial?_slot (name := Str.ofString "__next__") hit.typeIs slot_listiter_next
    (wpAny_call_entry slot_listiter_next hit.typeIs entry_listiter_next ?_ (args_listiter_next _)))
  show wpAny _ _ (field (.ref it) 0 >>= _) _ _ s
  refine wpAny_bind (wpAny_field hi.1 rfl (x := .ref l) rfl ?_)
  show wpAny _ _ (if (Value.ref l == Value.none) = true then _ else _) _ _ s
  rw [if_neg (show ¬ ((Value.ref l == Value.none) = true) from Bool.false_ne_true)]
  show wpAny _ _ (field (.ref it) 1 >>= _) _ _ s
  refine wpAny_bind (wpAny_field hi.1 rfl (x := .int i 0) rfl ?_)
  show wpAny _ _ (seqItems? (.ref l) >>= _) _ _ s
  refine wpAny_bind (wpAny_seqItems hol rfl ?_)
  have hx' : vs.toArray[i]? = none := by simpa using hx
  simp only [Int.toNat_natCast, hx']
  refine wpAny_bind (wpAny_rule (wpAny_bind (wpAny_setField hi.1 rfl (by simp) ?_)))
  obtain ⟨U1, U2⟩ := news_upd (pre := []) (o' := { cls := .type "list_iterator", data := .fields #[.none, .int i 0] }) (f := Obj.mapFields (·.setIfInBounds 0 Value.none)) F N (fun _ h => nomatch h) hne rfl rfl
  show wpAny _ _ (newExc (.type "StopIteration") [] >>= _) _ _ _
  refine wpAny_bind ?_
  simp only [newExc, newTuple]
  refine wpAny_bind (wpAny_newObj_type ?_ (by size_fits))
  refine wpAny_bind (m := firstArgMember _ _) (wpAny_of_eq (a := Value.none) (by first | rfl | (simp only [firstArgMember]; rfl)) ?_)
  refine wpAny_newObj_type ?_ (by size_fits)
  simp only [raiseNew]
  refine wpAny_bind (wpAny_handled ?_)
  rw [show (A.in1.in1).handled = none from hh]
  refine wpAny_bind (wpAny_pure (wpAny_throw ?_))
  refine h _ _ _ U1 (fun p hp => U2 p (.tail _ hp)) ⟨fun b o e => Heap.get?_push_of_some _ (Heap.get?_push_of_some _ e), ?_, ?_⟩
  · exact Heap.get?_none_of_le (by rw [Heap.size_push]; exact Nat.le_succ _)
  · refine ⟨_, Heap.get?_push_size _ rfl, Heap.get?_none_of_le (Nat.le_refl _), ?_⟩
    exact Heap.get?_push_of_some _ (Heap.get?_push_size _ rfl)
end
end Mine
end PartF4

section PartF5
set_option maxRecDepth 100000
namespace Mine
open PySem PySem.W PySem.Calls PyProof.Rows

/-- a turn's end: the measure falls and what holds between the turns holds, or the loop is left -/
def TurnEnd (I : Nat → Shared → Prop) (n : Nat) (Q : Flow → Shared → Prop) (f : Flow) (s : Shared) : Prop := match f with
  | .next => ∃ m, m < n ∧ I m s
  | .cont => ∃ m, m < n ∧ I m s
  | .brk => Q .next s
  | .ret v => Q (.ret v) s

theorem while_inv {prog : Program} {w : World} {A : Around} {E : Value → Shared → Prop} {s : Shared} {env : Env} {test : PySem.Expr} {body orelse : List Stmt} {pos : Pos} {Q : Flow → Shared → Prop}
    (I : Nat → Shared → Prop) (hE : PassesOwn (model prog w) A env E)
    (turn : ∀ n s, I n s → wpAny (model prog w) A (isTrue test env (eval test env)) (fun b s₂ => WhlIf b (wpAny (model prog w) A (execs body env) (TurnEnd I n Q) E s₂) (wpAny (model prog w) A (execs orelse env) Q E s₂)) E s)
    (n : Nat) (h : I n s) : wpAny (model prog w) A (exec (.While test body orelse pos) env) Q E s := by
  refine whl_start 0 ?_
  induction n using Nat.strongRecOn generalizing s with
  | ind n ih =>
    refine whl_turn (k := 0) hE (wpAny_mono (turn n s h) (fun b s₂ hb => ?_) fun _ _ e => e)
    cases b with
    | true =>
      refine WhlIf.yes rfl (wpAny_mono (show wpAny _ _ _ _ _ _ from hb) (fun f s₃ hf => ?_) fun _ _ e => e)
      cases f with
      | next => obtain ⟨k, hk, hI⟩ := hf; exact ih k hk hI
      | cont => obtain ⟨k, hk, hI⟩ := hf; exact ih k hk hI
      | brk => exact hf
      | ret v => exact hf
    | false => exact WhlIf.no rfl (show wpAny _ _ _ _ _ _ from hb)
end Mine
end PartF5

section PartM4
namespace Mine
theorem filter_dropWhile {α : Type} (p : α → Bool) (l : List α) : l.filter (fun d => !p d) = (match l.dropWhile p with
  | [] => []
  | d :: r => d :: r.filter (fun d => !p d)) := by
  induction l with
  | nil => rfl
  | cons a l ih =>
    cases h : p a with
    | true => simp [List.dropWhile_cons, List.filter_cons, h, ih]
    | false => simp [List.dropWhile_cons, List.filter_cons, h]
theorem drop_cons {α : Type} (l : List α) {i : Nat} (h : i < l.length) : l.drop i = l[i] :: l.drop (i + 1) := List.drop_eq_getElem_cons h
end Mine
end PartM4

section PartB6
open PySem PySem.W PyProof.Rows
namespace Mine
set_option maxRecDepth 100000
set_option maxHeartbeats 2000000
local macro_rules | `(tactic| k_room) => `(tactic| ((try simp only [depth_under_make, depth_under_kw, depth_in1, depth_deeper, depth_caller]); (try dsimp only [ktrTop]); (try simp only [recursionLimit] at *); omega))
local macro_rules | `(tactic| walk_at "call builtin:iter") => `(tactic| (k_here; k_dflt (refine' iter_list ?F ?N ?m ?_; (case F => k_asm); (case N => k_asm); (case m => k_mem); k_whole); intro it' h' F' N' l1; (try k_lt l1); (try k_sweep)))

/-- an object of filterfalse over the function at q and the iterator at it -/
abbrev ffObj (dx q it : Addr) : Obj := { cls := .ref 61, dict := some dx, data := .plain, slots := #[some (.ref q), some (.ref it)] }

theorem mkff (w : World) (p : Program) (loose : List Str) (mean : ExcName → Option Value) (mg mb : Str → Option Value) (base : Heap) (q lf : Addr) (fs : List Value) (nf : Nat) (oq : Obj) (rest : List (Addr × Obj)) :
  Ctr w p loose mean mg mb base 61 [.ref q, .ref lf] 10 ((q, oq) :: (lf, listOf fs.toArray nf) :: rest) (fun r news' =>
    ∃ x dx it, r = .ref x ∧ news' = (it, iterObj lf 0) :: (x, ffObj dx q it) :: (dx, dictOf [] 0) :: (q, oq) :: (lf, listOf fs.toArray nf) :: rest ∧
      (∀ r ∈ (q, oq) :: (lf, listOf fs.toArray nf) :: rest, r.1 < dx) ∧ dx < x ∧ x < it) := by
  unfold Ctr
  w_on
  w_top on
  intro dp un gd cn cs a ccd cl outer A₀ h₀ L m s Q E B F X N T C1 C2 hk hdp hun ret
  refine' call_cls (fI := 43) ?k1 ?k2 ?k3 ?k4 ?k5 ?k6 ?_; (case k1 => k_asm); (case k2 => k_asm); (case k3 => k_asm); (case k4 => k_is); (case k5 => k_is); (case k6 => k_is)
  intro x dx h1 F1 N1 l1 l2
  have l1' := l1
  have l2' := l2
  k_lt l1
  k_lt2 l2
  have lx : AllLt x rest := tbn_up (b := dx) l2 (by tbn_find)
  (refine' code_def ?k1 ?k2 ?k3 ?k4 ?k5 ?kA ?kF ?kK ?k6 ?k7 ?k8 ?k9 ?kB ?_ ?c2 ?c3 ?c4 ?c5; (case kA => exact rfl); (case kF => exact rfl); (case kK => exact hk); (case k1 => k_asm); (case k2 => k_asm); (case k3 => k_asm); (case k4 => k_asm); (case k5 => k_asm); (case k6 => k_is); (case k7 => k_is); (case k8 => k_room); (case k9 => first | exact BindsTo.of_eq rfl | exact binds_K (by k_in) rfl (by k_is) rfl rfl rfl | fail "k_enter: no rule for these arguments"); (case c5 => decide); (case kB => exact locs rfl); (case c2 => exact rfl); (case c3 => exact rfl); (case c4 => exact rfl); k_whole; intro g' L' h' FG' F' N' B' X' T'; (try dsimp only); (try k_fold))
  k_steps
  rename_i it' h7 l4 h8 h9 _ _ kF kN _ _
  exact ret _ _ _ _ kF kN ⟨x, dx, it', rfl, rfl, l1', l2', l4.1⟩
end Mine
end PartB6

section PartB7
open PySem PySem.W PyProof.Rows
namespace Mine
set_option maxRecDepth 100000

/-- what a call gives back, or ends by a StopIteration -/
def CtrN (w : World) (p : Program) (loose : List Str) (mean : ExcName → Option Value) (mg mb : Str → Option Value) (base : Heap) (f : Addr) (vs : List Value) (need : Nat) (news : List (Addr × Obj)) (Post : Value → List (Addr × Obj) → Prop) (PostX : List (Addr × Obj) → Prop) : Prop :=
  ∀ (dp un : Nat) (gd : Option (List Code)) (cn : Str) (cs : Scope) (a : Addr) (ccd : Value) (cl : List (Str × Addr)) (outer : List Env) (A₀ : Around) (h₀ : Heap) (L : Addr) (m : Str → Option Value) (s : Shared) (Q E : Value → Shared → Prop),
    Below A₀ base outer h₀ → Fr h₀ L s.heap m → (hd.heap_39 w.params).In h₀ → News h₀ L s.heap news → Top p loose mean mg mb h₀ → CodeHd base 27 23 → CodeHd base 20 16 → cs.kind = .function →
    dp + need < recursionLimit → un + 10 * need < cLine →
    (∀ r news' h' tk', Fr h₀ L h' m → News h₀ L h' news' → Post r news' → Q r { s with heap := h', toks := tk' }) →
    (∀ e t G news' h' tk', Fr h₀ L G m → RaisedS base G (envX cn cs L a ccd cl :: outer) e (.type "StopIteration") t [] news' h' → G.UpToSlots h' → PostX news' → E (.ref e) { s with heap := h', toks := tk' }) →
    wpAny (model PySem.Challenge.rw_ij0153_01.row.prog w) (ktrTop dp un gd cn cs L a ccd cl outer) (call (.ref f) vs) Q E s

def BodyN (w : World) (p : Program) (loose : List Str) (mean : ExcName → Option Value) (mg mb : Str → Option Value) (base : Heap) (qual : Str) (scope : Scope) (f : Addr) (cd : Value) (body : List Stmt) (mm : Str → Option Value) (need : Nat) (news : List (Addr × Obj)) (Post : Value → List (Addr × Obj) → Prop) (PostX : List (Addr × Obj) → Prop) : Prop :=
  ∀ (dp un : Nat) (gd : Option (List Code)) (outer : List Env) (A₀ : Around) (h₀ : Heap) (L : Addr) (s : Shared) (R : Flow → Shared → Prop) (E' : Value → Shared → Prop),
    Below A₀ base outer h₀ → Fr h₀ L s.heap mm → (hd.heap_39 w.params).In h₀ → News h₀ L s.heap news → Top p loose mean mg mb h₀ → CodeHd base 27 23 → CodeHd base 20 16 →
    (∀ q ∈ news, q.1 < L) → dp + need < recursionLimit → un + 10 * need < cLine →
    (∀ fl m' news' h' tk', (match fl with | .ret _ => True | .next => True | _ => False) → Fr h₀ L h' m' → News h₀ L h' news' → Post (match fl with | .ret v => v | _ => .none) news' → R fl { s with heap := h', toks := tk' }) →
    (∀ e m' news' h₁ h' tk', Fr h₀ L h₁ m' → News h₀ L h₁ news' → Heap.MadeExcOf h₁ h' e (.type "StopIteration") [] → PostX news' →
      wpAny (model PySem.Challenge.rw_ij0153_01.row.prog w) (ktrTop dp un gd qual scope L f cd [] outer) (leaving (envX qual scope L f cd []) (.ref e)) (fun _ s'' => E' (.ref e) s'') (fun e' s'' => E' e' s'') { s with heap := h', toks := tk' }) →
    wpAny (model PySem.Challenge.rw_ij0153_01.row.prog w) (ktrTop dp un gd qual scope L f cd [] outer) (execs body (envX qual scope L f cd [])) R
      (fun e s' => wpAny (model PySem.Challenge.rw_ij0153_01.row.prog w) (ktrTop dp un gd qual scope L f cd [] outer) (leaving (envX qual scope L f cd []) e) (fun _ s'' => E' e s'') (fun e' s'' => E' e' s'') s') s

section
variable {w : World} {p : Program} {loose : List Str} {mean : ExcName → Option Value} {mg mb : Str → Option Value} {base : Heap} {f : Addr} {vs : List Value} {need : Nat} {news : List (Addr × Obj)} {Post : Value → List (Addr × Obj) → Prop} {PostX : List (Addr × Obj) → Prop}
  {name qual : Str} {params : Arguments} {body : List Stmt} {scope : Scope} {doc pm : Value} {binds : List (Str × Value)}

theorem CtrN.top {dV kV oc : Value} {an od : Option Addr} {osl : Array (Option Value)} {cdv ct : Value} (ho : (hd.heap_39 w.params).lookup f = some ⟨oc, od, .func (fnOf name qual params body scope dV kV doc pm an cdv ct), osl⟩) (hcd : codeIn (hd.heap_39 w.params) cdv qual = true)
    (hbind : ∀ s, BindsTo s (fnOf name qual params body scope dV kV doc pm an cdv ct) ⟨vs, []⟩ binds) (hloc : ∀ y ∈ binds, scope.names.lookup y.1 = some .local)
    (hco : scope.isCoroutine = false) (hgen : scope.isGenerator = false) (hk : scope.kind = .function) (hcell : ∀ x ∈ scope.names, x.2 ≠ .cell)
    (H : BodyN w p loose mean mg mb base qual scope f cdv body (fun y => binds.reverse.lookup y) need news Post PostX) : CtrN w p loose mean mg mb base f vs (need + 1) news Post PostX := by
  intro dp un gd cn cs a ccd ccl outer A₀ h₀ L m s Q E B F X N T C1 C2 hk' hdp hun ret rse
  refine wpAny_call (callX_plain (cl := []) (env := envX cn cs L a ccd ccl) (outer := outer) B F N T.nolimit rfl rfl hk' ((X.keeps F.keep) _ _ ho) rfl (codeRec_of (X.keeps F.keep) hcd) ?_ (hbind s) hloc (fun g L' h₁ FG F' N' B' st l1 => ?_) hcell hco hgen hk)
  · show dp < recursionLimit
    omega
  · refine H (dp + 1) (un + 3) gd (envX cn cs L a ccd ccl :: outer) _ g L' { s with heap := h₁, toks := s.toks + binds.length } _ _ B' F' (X.keeps st) N' (T.keeps st) C1 C2 l1 (by omega) (by omega) ?_ ?_
    · intro fl m' news' h' tk' _ F₂ N₂ hP
      exact leaveK_ F₂ N₂ fun F₃ N₃ => ret _ _ _ _ F₃ N₃ hP
    · intro e m' news' h₁ h' tk' F₂ N₂ hx hP
      exact leave_raiseS (s' := { s with heap := h', toks := tk' }) (L := L') (name := qual) (scope := scope) (a := f) (cd := cdv) B' hx F₂ N₂ (fun h'' t R _ hsm => rse e t g news' h'' tk' FG R hsm hP) hk

/-- a StopIteration that came back to the frame at hand: the ground turns, the ledger stands -/
theorem caught_stop {A₀ : Around} {h₀ G h' : Heap} {outer : List Env} {cn : Str} {cs : Scope} {L a e t : Addr} {ccd : Value} {cl : List (Str × Addr)} {m : Str → Option Value} {ws : List Value} (B : Below A₀ base outer h₀) (F : Fr h₀ L G m)
    (R : RaisedS base G (envX cn cs L a ccd cl :: outer) e (.type "StopIteration") t ws news h') (hsm : G.UpToSlots h') :
    ∃ h₀', KtsTurn (outer.filterMap (·.frame)) h₀ h₀' ∧ Fr h₀' L h' m ∧ Below A₀ base outer h₀' ∧ News h₀' L h' news ∧ ∃ ob, h'.get? e = some ob ∧ ob.cls = .type "StopIteration" := by
  obtain ⟨⟨B', hB, hBG, hl, hfl, hnew⟩, htup⟩ := R
  have hL : B'.get? L = none := by
    obtain ⟨_, ⟨L', _, hf, hn', _⟩, _⟩ := hfl.2.2.1
    obtain rfl : L = L' := Option.some.inj hf
    exact hn'
  obtain ⟨g', T', F', K'⟩ := kts_ground (name := cn) (scope := cs) (a := a) (cd := ccd) B F hBG hfl.1 hsm
  refine ⟨g', T', F', K', fun q hq => ⟨hfl.1 _ _ (hl q hq).1, (fun z => by have := (hl q hq).1; rw [z, hL] at this; cases this), T'.none_ _ (kts_none F.keep (hl q hq).2.1)⟩, hfl.there⟩
end
end Mine
end PartB7

section PartB8
open PySem PySem.W PyProof.Rows
namespace Mine
set_option maxRecDepth 100000
set_option maxHeartbeats 2000000

/-- what __next__ is asked: the next item that is not in sk -/
abbrev nextPost (ds sk : List Int) (i : Nat) (it lf : Addr) (R0 : List (Addr × Obj)) (r : Value) (news' : List (Addr × Obj)) : Prop :=
  ∃ j tk d, r = .int d tk ∧ j < ds.length ∧ (ds.drop i).dropWhile (fun d => sk.contains d) = d :: ds.drop (j + 1) ∧ news' = (it, iterObj lf (j + 1)) :: R0
abbrev nextPostX (ds sk : List Int) (i : Nat) (R0 : List (Addr × Obj)) (news' : List (Addr × Obj)) : Prop := (ds.drop i).dropWhile (fun d => sk.contains d) = [] ∧ news' = R0

theorem nxt (w : World) (p : Program) (loose : List Str) (mean : ExcName → Option Value) (mg mb : Str → Option Value) (base : Heap) (lf ls x dx q it : Addr) (fs ss : List Value) (nf nn : Nat) (ds sk : List Int) (hf : IntsAre fs ds) (hs : IntsAre ss sk)
  (i : Nat) (hi : i ≤ ds.length) (rest : List (Addr × Obj)) (hne : ∀ p ∈ (x, ffObj dx q it) :: (dx, dictOf [] 0) :: (q, wrapObj ls) :: (lf, listOf fs.toArray nf) :: (ls, listOf ss.toArray nn) :: rest, p.1 ≠ it) :
  CtrN w p loose mean mg mb base 57 [.ref x] 5 ((it, iterObj lf i) :: (x, ffObj dx q it) :: (dx, dictOf [] 0) :: (q, wrapObj ls) :: (lf, listOf fs.toArray nf) :: (ls, listOf ss.toArray nn) :: rest)
    (nextPost ds sk i it lf ((x, ffObj dx q it) :: (dx, dictOf [] 0) :: (q, wrapObj ls) :: (lf, listOf fs.toArray nf) :: (ls, listOf ss.toArray nn) :: rest))
    (nextPostX ds sk i ((x, ffObj dx q it) :: (dx, dictOf [] 0) :: (q, wrapObj ls) :: (lf, listOf fs.toArray nf) :: (ls, listOf ss.toArray nn) :: rest)) := by
  w_on
  w_top on
  refine' CtrN.top (need := 4) (binds := [(Str.ofString "self", .ref x)]) ?k1 ?k2 ?k3 ?k4 ?k5 ?k6 ?k7 ?k8 ?_
  case k1 => k_is
  case k2 => k_is
  case k3 => intro s; exact BindsTo.of_eq rfl
  case k4 => exact locs rfl
  case k5 => exact rfl
  case k6 => exact rfl
  case k7 => exact rfl
  case k8 => decide
  intro dp un gd outer A₀ h₀ L s R E' B F X N T C1 C2 hLt hdp hun ret rse
  have hi0 := hi
  iterate 7 walk1
  rename Fr _ _ _ _ => F1
  rename News _ _ _ _ => N1
  refine while_inv (fun n s' => ∃ k u h' tk, n = ds.length - k ∧ k ≤ ds.length ∧ s' = { s with heap := h', toks := tk } ∧
      Fr h₀ L h' (fun y => if y = Str.ofString "item" then u else if y = Str.ofString "func" then some (.ref q) else List.lookup y [(Str.ofString "self", Value.ref x)].reverse) ∧
      News h₀ L h' ((it, iterObj lf k) :: (x, ffObj dx q it) :: (dx, dictOf [] 0) :: (q, wrapObj ls) :: (lf, listOf fs.toArray nf) :: (ls, listOf ss.toArray nn) :: rest) ∧
      (ds.drop k).dropWhile (fun d => sk.contains d) = (ds.drop i).dropWhile (fun d => sk.contains d)) (by passes_own) ?_ (ds.length - i) ?_
  · rintro n s' ⟨k, u, h2, tk, rfl, hk, rfl, F2, N2, hd⟩
    walk1
    walk1
    walk1
    refine WhlIf.yes rfl ?_
    k_steps
    by_cases hkl : k < ds.length
    · obtain ⟨ti, hti⟩ := hf.get k ds[k] (by simp [hkl])
      refine next_item F2 N2 hne (.tail _ (.tail _ (.tail _ (.head _)))) hti fun h3 F3 N3 => ?_
      clear F2 N2
      k_steps
      rename Fr _ _ _ _ => F4
      rename News _ _ _ _ => N4
      have hdk : (ds.drop k).dropWhile (fun d => sk.contains d) = if sk.contains ds[k] then (ds.drop (k + 1)).dropWhile (fun d => sk.contains d) else ds[k] :: ds.drop (k + 1) := by
        rw [drop_cons ds hkl, List.dropWhile_cons]
      refine callWith_W (l := ls) ?_
      k_steps
      · exact (N4 (q, wrapObj ls) (.tail _ (.tail _ (.tail _ (.head _))))).1
      · try dsimp only [List.nil_append]
        refine call_wrap (N4 (q, wrapObj ls) (.tail _ (.tail _ (.tail _ (.head _))))).1 (N4 (ls, listOf ss.toArray nn) (.tail _ (.tail _ (.tail _ (.tail _ (.tail _ (.head _))))))).1 hs ?_
        cases hc : sk.contains ds[k] with
        | true =>
          rw [hc, if_pos rfl] at hdk
          k_steps
          have e : (fun y => if y = Str.ofString "item" then some (Value.int ds[k] ti) else if y = Str.ofString "item" then u else if y = Str.ofString "func" then some (Value.ref q) else List.lookup y [(Str.ofString "self", Value.ref x)].reverse) = fun y => if y = Str.ofString "item" then some (Value.int ds[k] ti) else if y = Str.ofString "func" then some (Value.ref q) else List.lookup y [(Str.ofString "self", Value.ref x)].reverse := by
            funext y
            by_cases h : y = Str.ofString "item"
            · simp only [if_pos h]
            · simp only [if_neg h]
          rw [e] at F4
          exact ⟨ds.length - (k + 1), by omega, k + 1, _, _, _, rfl, by omega, rfl, F4, N4, by rw [← hdk, hd]⟩
        | false =>
          rw [hc, if_neg Bool.false_ne_true] at hdk
          k_steps
          dsimp only [TurnEnd]
          exact ret (.ret _) _ _ _ _ trivial F4 N4 ⟨k, ti, ds[k], rfl, hkl, by rw [← hd, hdk], rfl⟩
    · have hkn : fs[k]? = none := by
        rw [List.getElem?_eq_none_iff, hf.length]
        omega
      have hdk : ds.drop k = [] := by rw [List.drop_eq_nil_iff]; omega
      refine next_end rfl F2 N2 hne (.tail _ (.tail _ (.tail _ (.head _)))) hkn fun h3 h4 e F3 N3 hx => ?_
      rw [hdk] at hd
      exact rse e _ _ h3 h4 _ F3 N3 hx ⟨hd.symm, rfl⟩
  · refine ⟨i, none, _, _, rfl, hi, rfl, ?_, N1, rfl⟩
    have e : (fun y => if y = Str.ofString "item" then none else if y = Str.ofString "func" then some (Value.ref q) else List.lookup y [(Str.ofString "self", Value.ref x)].reverse) = fun y => if y = Str.ofString "func" then some (Value.ref q) else List.lookup y [(Str.ofString "self", Value.ref x)].reverse := by
      funext y
      by_cases h : y = Str.ofString "item"
      · subst h; rfl
      · rw [if_neg h]
    rw [e]
    exact F1
end Mine
end PartB8

section PartB9
open PySem PySem.W PyProof.Rows PySem.Calls
namespace Mine
set_option maxRecDepth 100000
set_option maxHeartbeats 2000000

section
variable {prog : Program} {w : World} {A₀ A : Around} {s : Shared} {base h₀ : Heap} {outer : List Env} {L : Addr} {m : Str → Option Value} {env : Env} {news : List (Addr × Obj)}
  {R : Result → Shared → Prop} {name qual : Str} {params : Arguments} {body : List Stmt} {scope : Scope} {cl : List (Str × Addr)} {dV kV doc pm cdv ct : Value} {an : Option Addr} {fo : Obj} {f : Addr} {args : Args} {binds : List (Str × Value)}

/-- a callee's ground that turned is a caller's ground that turned -/
def TurnBack (A₀ : Around) (base : Heap) (env : Env) (outer : List Env) (h₀ : Heap) (L : Addr) (m : Str → Option Value) (g : Heap) : Prop :=
  ∀ (hp : Heap) g' L' m' news', KtsTurn ((env :: outer).filterMap (·.frame)) g g' → Fr g' L' hp m' → News g' L' hp news' →
    ∃ h₀', KtsTurn (outer.filterMap (·.frame)) h₀ h₀' ∧ Below A₀ base outer h₀' ∧ Fr h₀' L hp m ∧ News h₀' L hp news'

theorem groundS (B : Below A₀ base outer h₀) (F : Fr h₀ L s.heap m) (N : News h₀ L s.heap news) (hA : A.frames = some (env :: outer)) (hf : env.frame = some L) (hke : env.scope.kind = .function) :
    Fr h₀ L (hideAll s.heap (news.map (·.1))) m ∧ Below A base (env :: outer) (hideAll s.heap (news.map (·.1))) ∧ TurnBack A₀ base env outer h₀ L m (hideAll s.heap (news.map (·.1))) := by
  obtain ⟨FG, BG, st, _⟩ := groundX (R := fun _ _ => True) B F N hA hf hke
  refine ⟨FG, BG, fun hp g' L' m' news' T' F' N' => ?_⟩
  have mem : ∀ b, b ∈ (env :: outer).filterMap (·.frame) → b = L ∨ b ∈ outer.filterMap (·.frame) := by
    intro b hb
    rw [List.filterMap_cons_some hf] at hb
    exact List.mem_cons.mp hb
  have nL := kts_self F
  obtain ⟨oL, es, ep, hLg, hLd, hLk, hLf⟩ := FG.ns
  obtain ⟨sl, hs⟩ := T'.up hLg
  obtain ⟨T₁, S₁⟩ := kts_turn_at (h := hp) (fs := outer.filterMap (·.frame)) (g := h₀)
    (fun b hb => by
      obtain ⟨_, o, ho, _⟩ := B.frames.mem hb
      exact ⟨o, ho⟩)
    (fun b o e nm => F'.keep b o (T'.other b o (st b o e) fun hb => by
      rcases mem b hb with rfl | hb
      · rw [nL] at e; cases e
      · exact nm hb))
    (fun b o e hb => by
      obtain ⟨sl', hs'⟩ := T'.up (st b o e)
      exact ⟨sl', F'.keep _ _ hs'⟩)
  refine ⟨_, T₁, ⟨B.stack, fun b o e => T₁.other b o (B.stays b o e) (fun hb => by
      rw [(B.frames.mem hb).1] at e
      cases e), B.frames.of_keeps fun b o e _ => ?_⟩, ⟨⟨_, es, ep, F'.keep _ _ hs, hLd, hLk, hLf⟩, S₁, by rw [T₁.size]; exact F.above⟩, fun q hq => ⟨(N' q hq).1, fun e => ?_, ?_⟩⟩
  · obtain ⟨sl', hs'⟩ := T₁.up e
    exact ⟨_, hs', rfl⟩
  · have z := (N' q hq).2.2
    rw [e, hs] at z
    cases z
  · refine T₁.none_ _ ?_
    cases e : h₀.get? q.1 with
    | none => rfl
    | some o =>
      obtain ⟨sl', hs'⟩ := T'.up (st _ _ e)
      have z := (N' q hq).2.2
      rw [hs'] at z
      cases z

theorem callS_plain (B : Below A₀ base outer h₀) (F : Fr h₀ L s.heap m) (N : News h₀ L s.heap news) (hlim : h₀.NoLimit) (hA : A.frames = some (env :: outer)) (hf : env.frame = some L) (hke : env.scope.kind = .function)
    (ho : s.heap.get? f = some fo) (hd : fo.data = .func (fnX name qual params body scope cl dV kV doc pm an cdv ct)) (hcd : s.heap.CodeRec cdv qual) (hroom : A.depth < recursionLimit)
    (hbind : BindsTo s (fnX name qual params body scope cl dV kV doc pm an cdv ct) args binds) (hloc : ∀ y ∈ binds, scope.names.lookup y.1 = some .local)
    (h : ∀ g L' h₁, TurnBack A₀ base env outer h₀ L m g → Fr g L' h₁ (fun y => binds.reverse.lookup y) → News g L' h₁ news → Below A base (env :: outer) g →
      wpAny (model prog w) (A.deeper (envX qual scope L' f cdv cl)) (execs body (envX qual scope L' f cdv cl)) (fun fl s' => R (.ok (.ret (match fl with | .ret v => v | _ => .none))) s')
        (fun e s' => wpAny (model prog w) (A.deeper (envX qual scope L' f cdv cl)) (leaving (envX qual scope L' f cdv cl) e) (fun _ s'' => R (.error e) s'') (fun e' s'' => R (.error e') s'') s')
        { s with heap := h₁, toks := s.toks + binds.length })
    (hcell : ∀ x ∈ scope.names, x.2 ≠ .cell) (hco : scope.isCoroutine = false) (hgen : scope.isGenerator = false) (hk : scope.kind = .function) : codeAny (model prog w) A (.call (.ref f) args) R s := by
  obtain ⟨FG, BG, tb⟩ := groundS B F N hA hf hke
  refine codeAny_call_def (fd := fnX name qual params body scope cl dV kV doc pm an cdv ct) (body := body) (binds := binds) hroom ho hd (hlim.keeps F.keep) hcd rfl hbind hcell hloc (fun h₁ hns hk₁ => ?_) hco hgen hk
  exact h _ s.heap.objs.size h₁ tb ⟨hns, fun b o e => hk₁ b o (of_hideAll _ e), Nat.le_of_eq (hideAll_size _ _)⟩
    (fun q hq => ⟨hk₁ _ _ (N q hq).1, Nat.ne_of_lt (Heap.lt_size (N q hq).1), hideAll_none _ (List.mem_map_of_mem hq)⟩) BG

theorem callS_cells (B : Below A₀ base outer h₀) (F : Fr h₀ L s.heap m) (N : News h₀ L s.heap news) (hlim : h₀.NoLimit) (hA : A.frames = some (env :: outer)) (hf : env.frame = some L) (hke : env.scope.kind = .function)
    (ho : s.heap.get? f = some fo) (hd : fo.data = .func (fnX name qual params body scope [] dV kV doc pm an cdv ct)) (hcd : s.heap.CodeRec cdv qual) (hroom : A.depth < recursionLimit)
    (hbind : BindsTo s (fnX name qual params body scope [] dV kV doc pm an cdv ct) args binds)
    (hkind : ∀ n, ∀ x ∈ binds, scope.names.lookup x.1 = some .local ∨ (scope.names.lookup x.1 = some .cell ∧ ((cellsFrom n scope.names []).lookup x.1).isSome = true))
    (hnd : ((cellsFrom 0 scope.names []).map (·.1)).Nodup)
    (h : ∀ g L' h₁ tk cells, TurnBack A₀ base env outer h₀ L m g → Fr g L' h₁ (bindL (envOfC qual scope L' f cdv).kindOf binds fun _ => none) → News g L' h₁ (cells ++ news) →
      CellsAre (bindC (envOfC qual scope L' f cdv).kindOf binds fun _ => none) (cellsFrom (L' + 1) scope.names []) cells → Below A base (env :: outer) g → (∀ q ∈ news, q.1 < L') →
      wpAny (model prog w) (A.deeper (envOfC qual scope L' f cdv)) (execs body (envOfC qual scope L' f cdv)) (fun fl s' => R (.ok (.ret (match fl with | .ret v => v | _ => .none))) s')
        (fun e s' => wpAny (model prog w) (A.deeper (envOfC qual scope L' f cdv)) (leaving (envOfC qual scope L' f cdv) e) (fun _ s'' => R (.error e) s'') (fun e' s'' => R (.error e') s'') s')
        { s with heap := h₁, toks := tk })
    (hco : scope.isCoroutine = false) (hgen : scope.isGenerator = false) (hk : scope.kind = .function) : codeAny (model prog w) A (.call (.ref f) args) R s := by
  obtain ⟨FG, BG, tb⟩ := groundS B F N hA hf hke
  refine codeAny_call_function hroom ho hd hco hgen rfl hcd (hbind _ _ _ _ ?_)
  refine wpAny_newFunctionEnv_cells hk (hkind _) fun env' he s' x => ?_
  subst he
  refine ⟨(hlim.keeps F.keep).keeps x.toInCall.keep, codeAny_func ?_⟩
  obtain ⟨h₁, tk, rfl, _⟩ := x.done
  have hk₁ := x.toInCall.keep
  obtain ⟨cells, NC, Y⟩ := Cl.news (h₀ := s.heap) (Nat.le_refl _) fun n c hm => ⟨x.cell n c (lookup_of_mem_nodup (cellsFrom_names scope.names 0 (s.heap.objs.size + 1) [] [] rfl ▸ hnd) hm), x.above n c hm⟩
  refine h _ s.heap.objs.size h₁ tk cells tb ⟨x.toInCall.ns, fun b o e => hk₁ b o (of_hideAll _ e), Nat.le_of_eq (hideAll_size _ _)⟩ (fun q hq => ?_) Y BG (fun q hq => Heap.lt_size (N q hq).1)
  rcases List.mem_append.mp hq with hq | hq
  · exact ⟨(NC q hq).1, (NC q hq).2.1, kts_none (fun b o e => of_hideAll _ e) (NC q hq).2.2⟩
  · exact ⟨hk₁ _ _ (N q hq).1, Nat.ne_of_lt (Heap.lt_size (N q hq).1), hideAll_none _ (List.mem_map_of_mem hq)⟩
end

/-- like Ctr, over a ground that may turn: a StopIteration caught below changes the slots of the frames' dicts -/
def CtrS (w : World) (p : Program) (loose : List Str) (mean : ExcName → Option Value) (mg mb : Str → Option Value) (base : Heap) (f : Addr) (vs : List Value) (need : Nat) (news : List (Addr × Obj)) (Post : Value → List (Addr × Obj) → Prop) : Prop :=
  ∀ (dp un : Nat) (gd : Option (List Code)) (cn : Str) (cs : Scope) (a : Addr) (ccd : Value) (cl : List (Str × Addr)) (outer : List Env) (A₀ : Around) (h₀ : Heap) (L : Addr) (m : Str → Option Value) (s : Shared) (Q E : Value → Shared → Prop),
    Below A₀ base outer h₀ → Fr h₀ L s.heap m → (hd.heap_39 w.params).In base → News h₀ L s.heap news → Top p loose mean mg mb base → CodeHd base 27 23 → CodeHd base 20 16 → cs.kind = .function →
    dp + need < recursionLimit → un + 10 * need < cLine →
    (∀ r news' h' tk' h₀', KtsTurn (outer.filterMap (·.frame)) h₀ h₀' → Below A₀ base outer h₀' → Fr h₀' L h' m → News h₀' L h' news' → Post r news' → Q r { s with heap := h', toks := tk' }) →
    wpAny (model PySem.Challenge.rw_ij0153_01.row.prog w) (ktrTop dp un gd cn cs L a ccd cl outer) (call (.ref f) vs) Q E s

section
variable {w : World} {p : Program} {loose : List Str} {mean : ExcName → Option Value} {mg mb : Str → Option Value} {base : Heap} {f : Addr} {vs : List Value} {need : Nat} {news : List (Addr × Obj)} {Post : Value → List (Addr × Obj) → Prop}
  {name qual : Str} {params : Arguments} {body : List Stmt} {scope : Scope} {doc pm : Value} {binds : List (Str × Value)}

theorem CtrS.top {dV kV oc : Value} {an od : Option Addr} {osl : Array (Option Value)} {cdv ct : Value} (ho : (hd.heap_39 w.params).lookup f = some ⟨oc, od, .func (fnOf name qual params body scope dV kV doc pm an cdv ct), osl⟩) (hcd : codeIn (hd.heap_39 w.params) cdv qual = true)
    (hbind : ∀ s, BindsTo s (fnOf name qual params body scope dV kV doc pm an cdv ct) ⟨vs, []⟩ binds) (hloc : ∀ y ∈ binds, scope.names.lookup y.1 = some .local)
    (hco : scope.isCoroutine = false) (hgen : scope.isGenerator = false) (hk : scope.kind = .function) (hcell : ∀ x ∈ scope.names, x.2 ≠ .cell)
    (H : ∀ (dp un : Nat) (gd : Option (List Code)) (outer : List Env) (A₀ : Around) (h₀ : Heap) (L : Addr) (s : Shared) (R : Flow → Shared → Prop) (E' : Value → Shared → Prop),
      Below A₀ base outer h₀ → Fr h₀ L s.heap (fun y => binds.reverse.lookup y) → (hd.heap_39 w.params).In base → News h₀ L s.heap news → Top p loose mean mg mb base → CodeHd base 27 23 → CodeHd base 20 16 →
      dp + need < recursionLimit → un + 10 * need < cLine →
      (∀ fl m' news' h' tk' h₀', (match fl with | .ret _ => True | .next => True | _ => False) → KtsTurn (outer.filterMap (·.frame)) h₀ h₀' → Fr h₀' L h' m' → News h₀' L h' news' → Post (match fl with | .ret v => v | _ => .none) news' → R fl { s with heap := h', toks := tk' }) →
      wpAny (model PySem.Challenge.rw_ij0153_01.row.prog w) (ktrTop dp un gd qual scope L f cdv [] outer) (execs body (envX qual scope L f cdv [])) R
        (fun e s' => wpAny (model PySem.Challenge.rw_ij0153_01.row.prog w) (ktrTop dp un gd qual scope L f cdv [] outer) (leaving (envX qual scope L f cdv []) e) (fun _ s'' => E' e s'') (fun e' s'' => E' e' s'') s') s) :
    CtrS w p loose mean mg mb base f vs (need + 1) news Post := by
  intro dp un gd cn cs a ccd ccl outer A₀ h₀ L m s Q E B F XB N TB C1 C2 hk' hdp hun ret
  have X := XB.keeps B.stays
  have T := TB.keeps B.stays
  refine wpAny_call (callS_plain (cl := []) (env := envX cn cs L a ccd ccl) (outer := outer) B F N T.nolimit rfl rfl hk' ((X.keeps F.keep) _ _ ho) rfl (codeRec_of (X.keeps F.keep) hcd) ?_ (hbind s) hloc (fun g L' h₁ tb F' N' B' => ?_) hcell hco hgen hk)
  · show dp < recursionLimit
    omega
  · refine H (dp + 1) (un + 3) gd (envX cn cs L a ccd ccl :: outer) _ g L' { s with heap := h₁, toks := s.toks + binds.length } _ _ B' F' XB N' TB C1 C2 (by omega) (by omega) ?_
    intro fl m' news' h' tk' g' _ KT F₂ N₂ hP
    obtain ⟨h₀', KT', B₃, F₃, N₃⟩ := tb _ _ _ _ _ KT F₂ N₂
    exact ret _ _ _ _ _ KT' B₃ F₃ N₃ hP

theorem CtrS.topC {dV kV oc : Value} {an od : Option Addr} {osl : Array (Option Value)} {cdv ct : Value} (ho : (hd.heap_39 w.params).lookup f = some ⟨oc, od, .func (fnOf name qual params body scope dV kV doc pm an cdv ct), osl⟩) (hcd : codeIn (hd.heap_39 w.params) cdv qual = true)
    (hbind : ∀ s, BindsTo s (fnOf name qual params body scope dV kV doc pm an cdv ct) ⟨vs, []⟩ binds) (hkind : (binds.all fun y => scope.names.lookup y.1 == some .local || scope.names.lookup y.1 == some .cell) = true)
    (hnd : ((cellsFrom 0 scope.names []).map (·.1)).Nodup)
    (hco : scope.isCoroutine = false) (hgen : scope.isGenerator = false) (hk : scope.kind = .function)
    (H : ∀ L' cells, CellsAre (bindC (envOfC qual scope L' f cdv).kindOf binds fun _ => none) (cellsFrom (L' + 1) scope.names []) cells → (∀ q ∈ news, q.1 < L') →
      ∀ (dp un : Nat) (gd : Option (List Code)) (outer : List Env) (A₀ : Around) (h₀ : Heap) (s : Shared) (R : Flow → Shared → Prop) (E' : Value → Shared → Prop),
      Below A₀ base outer h₀ → Fr h₀ L' s.heap (bindL (envOfC qual scope L' f cdv).kindOf binds fun _ => none) → (hd.heap_39 w.params).In base → News h₀ L' s.heap (cells ++ news) → Top p loose mean mg mb base → CodeHd base 27 23 → CodeHd base 20 16 →
      dp + need < recursionLimit → un + 10 * need < cLine →
      (∀ fl m' news' h' tk' h₀', (match fl with | .ret _ => True | .next => True | _ => False) → KtsTurn (outer.filterMap (·.frame)) h₀ h₀' → Fr h₀' L' h' m' → News h₀' L' h' news' → Post (match fl with | .ret v => v | _ => .none) news' → R fl { s with heap := h', toks := tk' }) →
      wpAny (model PySem.Challenge.rw_ij0153_01.row.prog w) (ktrTop dp un gd qual scope L' f cdv (cellsFrom (L' + 1) scope.names []) outer) (execs body (envX qual scope L' f cdv (cellsFrom (L' + 1) scope.names []))) R
        (fun e s' => wpAny (model PySem.Challenge.rw_ij0153_01.row.prog w) (ktrTop dp un gd qual scope L' f cdv (cellsFrom (L' + 1) scope.names []) outer) (leaving (envX qual scope L' f cdv (cellsFrom (L' + 1) scope.names [])) e) (fun _ s'' => E' e s'') (fun e' s'' => E' e' s'') s') s) :
    CtrS w p loose mean mg mb base f vs (need + 1) news Post := by
  intro dp un gd cn cs a ccd ccl outer A₀ h₀ L m s Q E B F XB N TB C1 C2 hk' hdp hun ret
  have X := XB.keeps B.stays
  have T := TB.keeps B.stays
  refine wpAny_call (callS_cells (env := envX cn cs L a ccd ccl) (outer := outer) B F N T.nolimit rfl rfl hk' ((X.keeps F.keep) _ _ ho) rfl (codeRec_of (X.keeps F.keep) hcd) ?_ (hbind s) (kindsX hkind) hnd (fun g L' h₁ tk cells tb F' N' Y B' l1 => ?_) hco hgen hk)
  · show dp < recursionLimit
    omega
  · refine H L' cells Y l1 (dp + 1) (un + 3) gd (envX cn cs L a ccd ccl :: outer) _ g { s with heap := h₁, toks := tk } _ _ B' F' XB N' TB C1 C2 (by omega) (by omega) ?_
    intro fl m' news' h' tk' g' _ KT F₂ N₂ hP
    obtain ⟨h₀', KT', B₃, F₃, N₃⟩ := tb _ _ _ _ _ KT F₂ N₂
    exact ret _ _ _ _ _ KT' B₃ F₃ N₃ hP
end

theorem CtrS.use {w : World} {p : Program} {loose : List Str} {mean : ExcName → Option Value} {mg mb : Str → Option Value} {base : Heap} {f : Addr} {vs : List Value} {need : Nat} {news : List (Addr × Obj)} {Post : Value → List (Addr × Obj) → Prop}
    {dp un : Nat} {gd : Option (List Code)} {cn : Str} {cs : Scope} {a : Addr} {ccd : Value} {cl : List (Str × Addr)} {outer : List Env} {A₀ : Around} {h₀ : Heap} {L : Addr} {m : Str → Option Value} {s : Shared} {Q E : Value → Shared → Prop}
    (C : CtrS w p loose mean mg mb base f vs need news Post)
    (B : Below A₀ base outer h₀) (F : Fr h₀ L s.heap m) (XB : (hd.heap_39 w.params).In base) (N : News h₀ L s.heap news) (TB : Top p loose mean mg mb base) (C1 : CodeHd base 27 23) (C2 : CodeHd base 20 16) (hk : cs.kind = .function)
    (hdp : dp + need < recursionLimit) (hun : un + 10 * need < cLine)
    (ret : ∀ r news' h' tk' h₀', KtsTurn (outer.filterMap (·.frame)) h₀ h₀' → Below A₀ base outer h₀' → Fr h₀' L h' m → News h₀' L h' news' → Post r news' → Q r { s with heap := h', toks := tk' }) :
    wpAny (model PySem.Challenge.rw_ij0153_01.row.prog w) (ktrTop dp un gd cn cs L a ccd cl outer) (call (.ref f) vs) Q E s :=
  C _ _ _ _ _ _ _ _ _ _ _ _ _ _ _ _ B F XB N TB C1 C2 hk hdp hun ret

theorem itr (w : World) (p : Program) (loose : List Str) (mean : ExcName → Option Value) (mg mb : Str → Option Value) (base : Heap) (x : Addr) (news : List (Addr × Obj)) :
    Ctr w p loose mean mg mb base 50 [.ref x] 4 news (fun r news' => r = .ref x ∧ news' = news) := by
  w_on
  w_top on
  refine' Ctr.top (need := 3) (binds := [(Str.ofString "self", .ref x)]) ?k1 ?k2 ?k3 ?k4 ?k5 ?k6 ?k7 ?k8 ?_
  case k1 => k_is
  case k2 => k_is
  case k3 => intro s; exact BindsTo.of_eq rfl
  case k4 => exact locs rfl
  case k5 => exact rfl
  case k6 => exact rfl
  case k7 => exact rfl
  case k8 => decide
  intro dp un gd outer A₀ h₀ L s R E' B F X N T C1 C2 hLt hdp hun ret
  k_steps
  exact ret (.ret _) _ _ _ _ trivial F N ⟨rfl, rfl⟩
end Mine
end PartB9

section PartB10
open PySem PySem.W PyProof.Rows PySem.Calls
namespace Mine
set_option maxRecDepth 100000
set_option maxHeartbeats 2000000

theorem ints_snoc {vs : List Value} {ns : List Int} (h : IntsAre vs ns) (d : Int) (t : Tok) : IntsAre (vs ++ [.int d t]) (ns ++ [d]) := by
  induction h with
  | nil => exact .cons d t .nil
  | cons a b _ ih => exact .cons a b ih

section
variable {w : World} {p : Program} {loose : List Str} {mean : ExcName → Option Value} {mg mb : Str → Option Value} {base : Heap} {lf ls x dx q it S : Addr} {fs ss : List Value} {nf nn : Nat} {ds sk : List Int}
  {dp un : Nat} {gd : Option (List Code)} {cn : Str} {cs : Scope} {a : Addr} {ccd : Value} {outer : List Env} {A₀ : Around} {h₀ : Heap} {L : Addr} {m : Str → Option Value} {s : Shared} {R : Result → Shared → Prop} {rest : List (Addr × Obj)}

theorem own_loop (hf : IntsAre fs ds) (hs : IntsAre ss sk) (hx : findIn (hd.heap_39 w.params) (.ref 61) "__next__" = some (some (.ref 57))) (hx' : isFn (hd.heap_39 w.params) (.ref 57) = true)
    (hne : ∀ vs n, ∀ p ∈ (x, ffObj dx q it) :: (dx, dictOf [] 0) :: (q, wrapObj ls) :: (lf, listOf fs.toArray nf) :: (ls, listOf ss.toArray nn) :: (S, listOf vs n) :: rest, p.1 ≠ it)
    (hS : ∀ i, ∀ p ∈ [(it, iterObj lf i), (x, ffObj dx q it), (dx, dictOf [] 0), (q, wrapObj ls), (lf, listOf fs.toArray nf), (ls, listOf ss.toArray nn)], p.1 ≠ S) (hS' : ∀ p ∈ rest, p.1 ≠ S)
    (B : Below A₀ base outer h₀) (X : (hd.heap_39 w.params).In h₀) (T : Top p loose mean mg mb h₀) (C1 : CodeHd base 27 23) (C2 : CodeHd base 20 16) (hk : cs.kind = .function)
    (hdp : dp + 5 < recursionLimit) (hun : un + 60 < cLine) (res : Value)
    (ret : ∀ h₀' h' tk vs n, KtsTurn (outer.filterMap (·.frame)) h₀ h₀' → Below A₀ base outer h₀' → Fr h₀' L h' m →
      News h₀' L h' ((x, ffObj dx q it) :: (dx, dictOf [] 0) :: (q, wrapObj ls) :: (lf, listOf fs.toArray nf) :: (ls, listOf ss.toArray nn) :: (S, listOf vs.toArray n) :: rest) →
      IntsAre vs (ds.filter fun d => !sk.contains d) → R (.ok (.ret res)) { s with heap := h', toks := tk }) :
    ∀ (k i : Nat) (vs : List Value) (acc : List Int) (n : Nat) (h : Heap) (tk : Nat), ds.length - i = k → i ≤ ds.length → acc.length + k ≤ 1000 → IntsAre vs acc → acc ++ (ds.drop i).filter (fun d => !sk.contains d) = ds.filter (fun d => !sk.contains d) →
      Fr h₀ L h m → News h₀ L h ((it, iterObj lf i) :: (x, ffObj dx q it) :: (dx, dictOf [] 0) :: (q, wrapObj ls) :: (lf, listOf fs.toArray nf) :: (ls, listOf ss.toArray nn) :: (S, listOf vs.toArray n) :: rest) →
      codeAny (model PySem.Challenge.rw_ij0153_01.row.prog w) (ktrTop dp un gd cn cs L a ccd [] outer) (.builtin "list.extend.loop" ⟨[.ref S, .ref x, res], []⟩) R { s with heap := h, toks := tk } := by
  intro k
  induction k using Nat.strongRecOn with
  | ind k ih =>
  intro i vs acc n h tk hki hi hlen hv hacc F N
  refine codeAny_builtin PySem.F.entry_extend_loop ?_
  rw [Around.under_plainId PySem.F.plain_extend_loop _]
  show wpAny _ (ktrTop dp (un + 1) gd cn cs L a ccd [] outer) (pyNext (.ref x) >>= _) _ _ _
  have I : InstAt h x (ffObj dx q it) 61 (some (dictOf [] 0)) := InstAt.of_news N (.tail _ (.head _)) (.tail _ (.tail _ (.head _)))
  refine wpAny_bind (owit_next (s := { s with heap := h, toks := tk }) F X I hx hx' ?_)
  refine nxt w p loose mean mg mb base lf ls x dx q it fs ss nf nn ds sk hf hs i hi ((S, listOf vs.toArray n) :: rest) (hne _ _) _ _ _ _ _ _ _ _ _ _ _ _ _ _ _ _ B F X N T C1 C2 hk hdp (by omega) ?_ ?_
  · rintro r news' h2 tk2 F2 N2 ⟨j, tj, d, rfl, hj, hdw, rfl⟩
    have e := filter_dropWhile (fun d => sk.contains d) (ds.drop i)
    rw [hdw] at e
    dsimp only at e
    have hij : i ≤ j := by
      have h1 : ((ds.drop i).dropWhile fun d => sk.contains d).length ≤ (ds.drop i).length := (List.dropWhile_sublist _).length_le
      rw [hdw] at h1
      simp only [List.length_cons, List.length_drop] at h1
      omega
    show wpAny _ _ (updateSeq S (·.push (Value.int d tj)) >>= _) _ _ _
    have z := N2 (S, listOf vs.toArray n) (by simp)
    refine wpAny_bind ?_
    refine wpAny_updateSeq z.1 rfl (wpAny_pure ⟨plainId_quiet PySem.F.plain_extend_loop _, ih (ds.length - (j + 1)) (by omega) (j + 1) (vs ++ [.int d tj]) (acc ++ [d]) (n + 1) _ _ rfl (by omega) ?_ (ints_snoc hv d tj) ?_ (F2.change (Heap.SameBut.update ..) z.2.1 z.2.2) ?_⟩) ?_ ?_
    · simp only [List.length_append, List.length_singleton]; omega
    · rw [List.append_assoc, List.singleton_append, ← e]; exact hacc
    · have k := kl_turn (pre := [(it, iterObj lf (j + 1)), (x, ffObj dx q it), (dx, dictOf [] 0), (q, wrapObj ls), (lf, listOf fs.toArray nf), (ls, listOf ss.toArray nn)]) (post := rest) (its' := (vs ++ [Value.int d tj]).toArray) (fun xs => xs.push (Value.int d tj)) N2 (hS _) hS' (by simp) (by simp)
      exact k
    · show vs.toArray.size ≤ _
      rw [List.size_toArray, hv.length]
      have : (1000 : Nat) ≤ sizeLine := by decide
      omega
    · show (vs.toArray.push (Value.int d tj)).size ≤ _
      rw [Array.size_push, List.size_toArray, hv.length]
      have : (1000 : Nat) ≤ sizeLine := by decide
      omega
  · rintro e t G news' h2 tk2 FG RR hsm ⟨hdw, rfl⟩
    obtain ⟨h₀', KT, F', B', N', ob, hob, hcl⟩ := caught_stop B FG RR hsm
    have e0 := filter_dropWhile (fun d => sk.contains d) (ds.drop i)
    rw [hdw] at e0
    dsimp only at e0
    unfold OwitStop
    refine wpAny_isInstance (T := "StopIteration") (b := true) ⟨ob, hob, hcl⟩ (by rw [isSubtype_type]; kernel_rfl) ?_
    rw [if_pos rfl]
    refine wpAny_pure (ret h₀' h2 tk2 vs n KT B' F' N' ?_)
    rw [e0, List.append_nil] at hacc
    rw [← hacc]
    exact hv
end
end Mine
end PartB10

section PartB11
open PySem PySem.W PyProof.Rows PySem.Calls
namespace Mine
set_option maxRecDepth 100000
set_option maxHeartbeats 2000000

section
variable {prog : Program} {w : World} {A : Around} {E : Value → Shared → Prop} {s : Shared} {K : Frag} {x C : Addr} {ox : Obj} {od : Option Obj}
/-- an object whose class tells no length: the list makes room -/
theorem own_hint {Q : Bool → Shared → Prop} (X : K.In s.heap) (I : InstAt s.heap x ox C od) (h1 : findIn K (.ref C) "__len__" = some none) (h2 : findIn K (.ref C) "__length_hint__" = some none) (h : Q true s) :
    wpAny (model prog w) A (Builtin.List.listLengthHint (.ref x)) Q E s := by
  unfold Builtin.List.listLengthHint
  refine wpAny_bind (m := specialOf (.ref x) "__len__") (wpAny_bind (I.type.here ((looks_findIn X h1).here ?_)))
  show wpAny _ A (specialOf (Value.ref x) (Str.ofString "__length_hint__") >>= _) _ _ _
  refine wpAny_bind (wpAny_bind (I.type.here ((looks_findIn X h2).here ?_)))
  exact wpAny_pure h
end

section
variable {w : World} {p : Program} {loose : List Str} {mean : ExcName → Option Value} {mg mb : Str → Option Value} {base : Heap} {lf ls x dx q it : Addr} {fs ss : List Value} {nf nn : Nat} {ds sk : List Int}
  {dp un : Nat} {gd : Option (List Code)} {cn : Str} {cs : Scope} {a : Addr} {ccd : Value} {outer : List Env} {A₀ : Around} {h₀ : Heap} {L : Addr} {m : Str → Option Value} {s : Shared} {Q E : Value → Shared → Prop} {rest : List (Addr × Obj)}

theorem list_own (hf : IntsAre fs ds) (hs : IntsAre ss sk) (hlen : ds.length ≤ 1000) (hx : findIn (hd.heap_39 w.params) (.ref 61) "__next__" = some (some (.ref 57))) (hx' : isFn (hd.heap_39 w.params) (.ref 57) = true)
    (hy : findIn (hd.heap_39 w.params) (.ref 61) "__iter__" = some (some (.ref 50))) (hy' : isFn (hd.heap_39 w.params) (.ref 50) = true)
    (hl1 : findIn (hd.heap_39 w.params) (.ref 61) "__len__" = some none) (hl2 : findIn (hd.heap_39 w.params) (.ref 61) "__length_hint__" = some none)
    (hne : ∀ p ∈ (x, ffObj dx q it) :: (dx, dictOf [] 0) :: (q, wrapObj ls) :: (lf, listOf fs.toArray nf) :: (ls, listOf ss.toArray nn) :: rest, p.1 ≠ it)
    (B : Below A₀ base outer h₀) (F : Fr h₀ L s.heap m) (X : (hd.heap_39 w.params).In h₀) (N : News h₀ L s.heap ((it, iterObj lf 0) :: (x, ffObj dx q it) :: (dx, dictOf [] 0) :: (q, wrapObj ls) :: (lf, listOf fs.toArray nf) :: (ls, listOf ss.toArray nn) :: rest))
    (T : Top p loose mean mg mb h₀) (C1 : CodeHd base 27 23) (C2 : CodeHd base 20 16) (hk : cs.kind = .function)
    (hdp : dp + 7 < recursionLimit) (hun : un + 80 < cLine)
    (ret : ∀ S h₀' h' tk vs n, KtsTurn (outer.filterMap (·.frame)) h₀ h₀' → Below A₀ base outer h₀' → Fr h₀' L h' m →
      News h₀' L h' ((S, listOf vs.toArray n) :: (lf, listOf fs.toArray nf) :: (ls, listOf ss.toArray nn) :: rest) →
      IntsAre vs (ds.filter fun d => !sk.contains d) → (∀ p ∈ (lf, listOf fs.toArray nf) :: (ls, listOf ss.toArray nn) :: rest, p.1 < S) → Q (.ref S) { s with heap := h', toks := tk }) :
    wpAny (model PySem.Challenge.rw_ij0153_01.row.prog w) (ktrTop dp un gd cn cs L a ccd [] outer) (call (.type "list") [.ref x]) Q E s := by
  obtain ⟨hp, g, d, tk0, os⟩ := s
  dsimp only at F N
  have hlt : ∀ p ∈ (it, iterObj lf 0) :: (x, ffObj dx q it) :: (dx, dictOf [] 0) :: (q, wrapObj ls) :: (lf, listOf fs.toArray nf) :: (ls, listOf ss.toArray nn) :: rest, p.1 < hp.objs.size := fun p hp => Heap.lt_size (N p hp).1
  refine callType_codes (Q₁ := fun obj s₁ => obj = .ref hp.objs.size ∧ s₁ = ⟨hp.push { cls := .type "list", data := .seq #[] }, g, d, tk0, os⟩) PySem.F.called_list (PySem.F.typeCall_list_1 _) PySem.F.entry_list_init
    (code_list_new _ ⟨rfl, rfl⟩) fun obj s₁ h₁ => ?_
  obtain ⟨rfl, rfl⟩ := h₁
  have F1 := F.push (o := { cls := .type "list", data := .seq #[] })
  have N1 := News.push F N { cls := .type "list", data := .seq #[] } rfl
  have hS := (N1 _ (.head _)).1
  refine ⟨⟨_, hS, rfl⟩, PySem.F.args_list_init_2 _ _, ?_⟩
  show wpAny _ (ktrTop dp (un + 2) gd cn cs L a ccd [] outer) (do let old ← Builtin.List.listItems (.ref hp.objs.size); Builtin.List.listUpdate (.ref hp.objs.size) (fun _ => #[]); letGo old.toList.reverse; Builtin.List.listExtendWith (.ref hp.objs.size) (.ref x) .none) _ _ _
  refine wpAny_bind ?_
  unfold Builtin.List.listItems
  refine wpAny_bind (wpAny_seqItems hS rfl (wpAny_pure ?_))
  show wpAny _ _ (updateSeq hp.objs.size (fun _ => #[]) >>= fun _ => letGo (#[] : Array Value).toList.reverse >>= fun _ => Builtin.List.listExtendWith (.ref hp.objs.size) (.ref x) .none) _ _ _
  refine wpAny_bind (wpAny_updateSeq hS rfl ?_)
  refine wpAny_bind (wpAny_letGo ?_)
  have z1 := N1 _ (List.mem_cons_self ..)
  have F2 := F1.change (Heap.SameBut.update _ _ (Obj.mapSeq (fun _ => (#[] : Array Value)))) z1.2.1 z1.2.2
  have hpost : ∀ p ∈ (it, iterObj lf 0) :: (x, ffObj dx q it) :: (dx, dictOf [] 0) :: (q, wrapObj ls) :: (lf, listOf fs.toArray nf) :: (ls, listOf ss.toArray nn) :: rest, p.1 ≠ hp.objs.size := fun p h => Nat.ne_of_lt (hlt p h)
  have N2 := kl_turn0 (pre := []) (its := #[]) (its' := #[]) (n := 0) (fun _ => (#[] : Array Value)) N1 (fun _ h => nomatch h) hpost rfl rfl
  unfold Builtin.List.listExtendWith
  have I : InstAt _ x (ffObj dx q it) 61 (some (dictOf [] 0)) := InstAt.of_news N2 (.tail _ (.tail _ (.head _))) (.tail _ (.tail _ (.tail _ (.head _))))
  refine wpAny_bind (I.type.here ?_)
  have hSx : hp.objs.size ≠ x := Nat.ne_of_gt (hlt _ (.tail _ (.head _)))
  have h1 : Builtin.List.listSameRef (.ref hp.objs.size) (.ref x) = false := by simp [Builtin.List.listSameRef, hSx]
  have h2 : (Value.ref 61 == Value.type "list") = false := by decide
  have h3 : (Value.ref 61 == Value.type "tuple") = false := by decide
  simp only [h1, h2, h3, Bool.or_false, Bool.false_eq_true, if_false]
  refine wpAny_bind (owit_iter F2 X I hy hy' ?_)
  refine Ctr.use (un := un + 2) (itr w p loose mean mg mb base x _) B F2 X N2 T C1 C2 hk (by omega) (by omega) ?_
  rintro r nw3 h3' tk3 F3 N3 ⟨rfl, rfl⟩
  have I3 : InstAt _ x (ffObj dx q it) 61 (some (dictOf [] 0)) := InstAt.of_news N3 (.tail _ (.tail _ (.head _))) (.tail _ (.tail _ (.tail _ (.head _))))
  refine owit_it F3 X I3 hx ?_
  refine wpAny_bind (wpAny_holding (own_hint (X.keeps F3.keep) I3 hl1 hl2 ?_))
  rw [Bool.true_or, if_pos rfl]
  refine wpAny_bind (wpAny_rule ?_)
  refine wpAny_bind ?_
  show wpAny _ _ (updateSeq hp.objs.size (·.push .none) >>= fun _ => updateSeq hp.objs.size (·.pop)) _ _ _
  have z3 := N3 _ (List.mem_cons_self ..)
  refine wpAny_bind (wpAny_updateSeq z3.1 rfl ?_)
  have F4 := F3.change (Heap.SameBut.update _ _ (Obj.mapSeq (fun xs => xs.push Value.none))) z3.2.1 z3.2.2
  have N4 := kl_turn (pre := []) (its' := #[Value.none]) (fun xs => xs.push Value.none) N3 (fun _ h => nomatch h) hpost rfl (by decide)
  have z4 := N4 _ (List.mem_cons_self ..)
  refine wpAny_updateSeq (hz := by seq_fits) z4.1 rfl ?_
  have F5 := F4.change (Heap.SameBut.update _ _ (Obj.mapSeq (fun xs => xs.pop))) z4.2.1 z4.2.2
  have N5 := kl_turn (pre := []) (its' := #[]) (fun xs => xs.pop) N4 (fun _ h => nomatch h) hpost rfl (by decide)
  refine wpAny_pure ⟨plainId_quiet PySem.F.plain_extend_loop _, ?_⟩
  refine own_loop (lf := lf) (ls := ls) (dx := dx) (q := q) (it := it) (nf := nf) (nn := nn) (dp := dp) (un := un + 1) (gd := gd) (cn := cn) (cs := cs) (a := a) (ccd := ccd) (s := ⟨hp, g, d, tk0, os⟩) (S := hp.objs.size) (rest := rest) hf hs hx hx' ?_ ?_ ?_ B X T C1 C2 hk (by omega) (by omega) .none ?_ _ 0 [] [] (0 + 1 + 1) _ _ rfl (by omega) ?_ .nil (by simp) F5 ?_
  · intro vs n p hp'
    have : hp.objs.size ≠ it := Nat.ne_of_gt (hlt _ (.head _))
    simp only [List.mem_cons] at hp'
    rcases hp' with h | h | h | h | h | rfl | h
    · exact hne p (by simp [h])
    · exact hne p (by simp [h])
    · exact hne p (by simp [h])
    · exact hne p (by simp [h])
    · exact hne p (by simp [h])
    · exact this
    · exact hne p (by simp [h])
  · intro i p hp'
    simp only [List.mem_cons, List.not_mem_nil, or_false] at hp'
    rcases hp' with rfl | h | h | h | h | h
    · exact Nat.ne_of_lt (hlt (it, iterObj lf 0) (.head _))
    all_goals exact hpost p (by simp [h])
  · intro p hp'
    exact hpost p (by simp [hp'])
  · intro h₀' h' tk vs n KT B' F' N' hi
    refine ⟨rfl, ret _ h₀' h' tk vs n KT B' F' (News.sub N' ?_) hi ?_⟩
    · intro q hq
      simp only [List.mem_cons] at hq ⊢
      rcases hq with rfl | rfl | rfl | hq <;> simp [*]
    · intro q hq
      refine hlt q ?_
      simp only [List.mem_cons] at hq ⊢
      rcases hq with rfl | rfl | hq <;> simp [*]
  · simp; omega
  · refine News.sub N5 ?_
    intro q hq
    simp only [List.mem_cons, List.nil_append] at hq ⊢
    rcases hq with rfl | rfl | rfl | rfl | rfl | rfl | rfl | hq <;> simp [*]
end
end Mine
end PartB11

section PartB12
open PySem PySem.W PyProof.Rows PySem.Calls
namespace Mine
set_option maxRecDepth 100000
set_option maxHeartbeats 2000000
local macro_rules | `(tactic| walk_at "getAttr ref") => `(tactic| (k_here; k_dflt (refine' attr_contains ?F ?N ?m ?_; (case F => k_asm); (case N => k_asm); (case m => k_mem); k_whole); intro q' h' F' N' l1; (try k_lt l1); (try k_sweep)))

abbrev filtPost (ds sk : List Int) (R0 : List (Addr × Obj)) (r : Value) (news' : List (Addr × Obj)) : Prop :=
  ∃ S vs n, r = .ref S ∧ news' = (S, listOf vs.toArray n) :: R0 ∧ IntsAre vs (ds.filter fun d => !sk.contains d) ∧ ∀ p ∈ R0, p.1 < S

theorem filt (w : World) (p : Program) (loose : List Str) (mean : ExcName → Option Value) (mg mb : Str → Option Value) (base : Heap) (lf ls : Addr) (fs ss : List Value) (nf nn : Nat) (ds sk : List Int) (hf : IntsAre fs ds) (hs : IntsAre ss sk) (hlen : ds.length ≤ 1000) (rest : List (Addr × Obj)) :
    CtrS w p loose mean mg mb base 72 [.ref lf, .ref ls] 20 ((lf, listOf fs.toArray nf) :: (ls, listOf ss.toArray nn) :: rest) (filtPost ds sk ((lf, listOf fs.toArray nf) :: (ls, listOf ss.toArray nn) :: rest)) := by
  w_on
  w_top on
  refine' CtrS.top (need := 19) (binds := [(Str.ofString "flist", .ref lf), (Str.ofString "skip", .ref ls)]) ?k1 ?k2 ?k3 ?k4 ?k5 ?k6 ?k7 ?k8 ?_
  case k1 => k_is
  case k2 => k_is
  case k3 => intro s; exact BindsTo.of_eq rfl
  case k4 => exact locs rfl
  case k5 => exact rfl
  case k6 => exact rfl
  case k7 => exact rfl
  case k8 => decide
  intro dp un gd outer A₀ h₀ L s R E' B F XB N TB C1 C2 hdp hun ret
  have X := XB.keeps B.stays
  have T := TB.keeps B.stays
  k_steps
  rename_i q h1 F1 N1 l1
  have l1' : ∀ r ∈ (q, wrapObj ls) :: (lf, listOf fs.toArray nf) :: (ls, listOf ss.toArray nn) :: rest, r.1 ≤ q := by
    intro r hr
    simp only [List.mem_cons] at hr
    rcases hr with rfl | rfl | rfl | hr
    · exact Nat.le_refl _
    · exact Nat.le_of_lt l1.1
    · exact Nat.le_of_lt l1.2.1
    · exact Nat.le_of_lt (allLt_all l1.2.2 r hr)
  refine Ctr.use (mkff w p loose mean mg mb base q lf fs nf (wrapObj ls) ((ls, listOf ss.toArray nn) :: rest)) B F1 X N1 T C1 C2 rfl (by omega) (by omega) ?_
  rintro r nw2 h2 tk2 F2 N2 ⟨x, dx, it, rfl, rfl, l2, l3, l4⟩
  k_steps
  refine list_own (it := it) (dx := dx) (q := q) (s := { s with heap := h2, toks := tk2 }) hf hs hlen (by k_is) (by k_is) (by k_is) (by k_is) (by k_is) (by k_is) ?_ B F2 X N2 T C1 C2 rfl (by omega) (by omega) ?_
  · intro r hr
    simp only [List.mem_cons] at hr
    have a1 := l2 (q, wrapObj ls) (.head _)
    rcases hr with rfl | rfl | rfl | rfl | rfl | hr
    · exact Nat.ne_of_lt l4
    · exact Nat.ne_of_lt (Nat.lt_trans l3 l4)
    · exact Nat.ne_of_lt (Nat.lt_trans a1 (Nat.lt_trans l3 l4))
    · exact Nat.ne_of_lt (Nat.lt_trans (l2 (lf, listOf fs.toArray nf) (by simp)) (Nat.lt_trans l3 l4))
    · exact Nat.ne_of_lt (Nat.lt_trans (l2 (ls, listOf ss.toArray nn) (by simp)) (Nat.lt_trans l3 l4))
    · exact Nat.ne_of_lt (Nat.lt_trans (l2 r (by simp [hr])) (Nat.lt_trans l3 l4))
  · intro S h₀' h' tk vs n KT B' F' N' hi hlt
    exact ret (.ret _) _ _ h' tk h₀' trivial KT F' N' ⟨S, vs, n, rfl, rfl, hi, hlt⟩
end Mine
end PartB12

section PartB13
open PySem PySem.W PyProof.Rows PySem.Calls
namespace Mine
set_option maxRecDepth 100000
set_option maxHeartbeats 2000000

theorem any_contains (sk : List Int) (d : Int) : (sk.any fun y => y == d) = sk.contains d := by
  rw [List.contains_eq_any_beq]
  congr 1
  funext y
  exact Bool.eq_iff_iff.mpr ⟨fun h => by simp at h ⊢; exact h.symm, fun h => by simp at h ⊢; exact h.symm⟩

theorem digs_zero (n : Nat) : ∀ k, digs n 0 k = List.replicate k 0
  | 0 => rfl
  | k + 1 => by rw [digs, Int.zero_emod, Int.zero_ediv, digs_zero n k, List.replicate_succ]
theorem val_zeros (n : Nat) : ∀ k, val n (List.replicate k 0) = 0
  | 0 => rfl
  | k + 1 => by rw [List.replicate_succ, val, val_zeros n k, Int.mul_zero]; rfl
theorem val_filter_zero (n k : Nat) (P : Int → Bool) : val n ((digs n 0 k).filter P) = 0 := by
  rw [digs_zero]
  cases h : P 0 with
  | true => rw [List.filter_replicate_of_pos h, val_zeros]
  | false => rw [List.filter_replicate_of_neg (by simp [h])]; rfl
theorem pow_pos_of {n j : Nat} {x : Int} (h0 : 0 < x) (h : x < 2 ^ (n * j)) : ∃ i, j = i + 1 := by
  cases j with
  | zero => rw [Nat.mul_zero, Int.pow_zero] at h; omega
  | succ i => exact ⟨i, rfl⟩
theorem div_lt {n i : Nat} {x : Int} (h : x < 2 ^ (n * (i + 1))) : x / 2 ^ n < 2 ^ (n * i) := by
  apply Int.ediv_lt_of_lt_mul (pow2_pos n)
  rw [Int.mul_comm, ← Int.pow_add, Nat.add_comm, ← Nat.mul_succ]
  exact h

theorem frCongr {h₀ h : Heap} {L : Addr} {m m' : Str → Option Value} (F : Fr h₀ L h m) (e : ∀ y, m y = m' y) : Fr h₀ L h m' := by
  rw [← funext e]
  exact F

local macro_rules | `(tactic| mul_fits) => `(tactic| assumption)
theorem sieved (w : World) (p : Program) (loose : List Str) (mean : ExcName → Option Value) (mg mb : Str → Option Value) (base : Heap) (ls : Addr) (ss : List Value) (nn : Nat) (sk : List Int) (hs : IntsAre ss sk) (a : Int) (ta t : Tok) (n k : Nat) (b : Bool)
    (ha : 0 ≤ a) (hak : a < 2 ^ (n * k)) (hn : 2 ≤ n) (hn4 : n ≤ 4) (hsz : n * k ≤ 60) (rest : List (Addr × Obj)) :
    Ctr w p loose mean mg mb base 79 [.int a ta, .int n t, .ref ls, .bool b] 5 ((ls, listOf ss.toArray nn) :: rest) (fun r news' => news' = (ls, listOf ss.toArray nn) :: rest ∧ ∃ tk, r = .int (val n ((digs n a k).filter fun d => sk.contains d == b)) tk) := by
  w_on
  w_top on
  refine' Ctr.top (need := 4) (binds := [(Str.ofString "number", .int a ta), (Str.ofString "bits", .int n t), (Str.ofString "skip", .ref ls), (Str.ofString "wanted", .bool b)]) ?k1 ?k2 ?k3 ?k4 ?k5 ?k6 ?k7 ?k8 ?_
  case k1 => k_is
  case k2 => k_is
  case k3 => intro s; exact BindsTo.of_eq rfl
  case k4 => exact locs rfl
  case k5 => exact rfl
  case k6 => exact rfl
  case k7 => exact rfl
  case k8 => decide
  intro dp un gd outer A₀ h₀ L s R E' B F X N T C1 C2 hLt hdp hun ret
  iterate 9 walk1
  rename Fr _ _ _ _ => F1
  rename News _ _ _ _ => N1
  refine while_inv (fun j s' => ∃ x wt v tx tw tv u h' tk, s' = { s with heap := h', toks := tk } ∧ 0 ≤ x ∧ x < 2 ^ (n * j) ∧ v + wt * val n ((digs n x j).filter fun d => sk.contains d == b) = val n ((digs n a k).filter fun d => sk.contains d == b) ∧
      Fr h₀ L h' (fun y => if y = Str.ofString "number" then some (.int x tx) else if y = Str.ofString "weight" then some (.int wt tw) else if y = Str.ofString "told" then some (.int v tv) else if y = Str.ofString "digit" then u else
        List.lookup y [(Str.ofString "number", Value.int a ta), (Str.ofString "bits", .int n t), (Str.ofString "skip", .ref ls), (Str.ofString "wanted", .bool b)].reverse) ∧
      News h₀ L h' ((ls, listOf ss.toArray nn) :: rest)) (by passes_own) ?_ k ?_
  · rintro j s' ⟨x, wt, v, tx, tw, tv, u, h2, tk, rfl, hx, hxj, htot, F2, N2⟩
    clear F1 N1
    by_cases h0 : 0 < x
    · k_steps
      refine WhlIf.yes (decide_eq_true h0) ?_
      have q1 := pow2_pos n
      have q2 : (2 : Int) ^ n ≤ 2 ^ 4 := pow2_le hn4
      have e1 : (2 : Int) ^ ((n : Int)).toNat = 2 ^ n := by rw [Int.toNat_natCast]
      have e2 : x.fmod (2 ^ ((n : Int)).toNat) = x % 2 ^ n := by rw [e1, Int.fmod_eq_emod_of_nonneg _ (Int.le_of_lt q1)]
      have e3 : x.fdiv (2 ^ ((n : Int)).toNat) = x / 2 ^ n := by rw [e1, Int.fdiv_eq_ediv_of_nonneg _ (Int.le_of_lt q1)]
      have d1 : 0 ≤ x % 2 ^ n := Int.emod_nonneg _ (by omega)
      have d2 : x % 2 ^ n < 2 ^ n := Int.emod_lt_of_pos _ q1
      have m1 : IntMulOk (x.fmod (2 ^ ((n : Int)).toNat)) wt := by
        rw [e2]
        exact IntMulOk.of_left (PySem.intBits_le_64 (by omega) (by omega))
      have m2 : IntMulOk wt (2 ^ ((n : Int)).toNat) := by
        rw [e1]
        exact IntMulOk.of_right (PySem.intBits_le_64 (by omega) (by omega))
      k_steps
      · rename_i hif _ _ _ _ _
        rename Fr _ _ _ _ => F3
        rename News _ _ _ _ => N3
        obtain ⟨i, rfl⟩ := pow_pos_of h0 hxj
        rw [any_contains, e2] at hif
        rw [digs, List.filter_cons, if_pos hif, val] at htot
        refine' ⟨i, Nat.lt_succ_self i, x / 2 ^ n, wt * 2 ^ n, v + x % 2 ^ n * wt, _, _, _, _, _, _, rfl, Int.ediv_nonneg hx (Int.le_of_lt q1), div_lt hxj, ?e, ?f, N3⟩
        case e => rw [← htot, Int.mul_add, Int.mul_assoc, Int.mul_comm wt (x % 2 ^ n), Int.add_assoc]
        case f =>
          rw [e3, e2, e1] at F3
          refine' frCongr F3 fun y => ?_
          by_cases h1 : y = Str.ofString "number"
          · subst h1; rfl
          by_cases h2 : y = Str.ofString "weight"
          · subst h2; rfl
          by_cases h3 : y = Str.ofString "told"
          · subst h3; rfl
          by_cases h4 : y = Str.ofString "digit"
          · subst h4; rfl
          simp only [if_neg h1, if_neg h2, if_neg h3, if_neg h4]
      · rename (_ == b) = false => hif
        rename Fr _ _ _ _ => F3
        rename News _ _ _ _ => N3
        obtain ⟨i, rfl⟩ := pow_pos_of h0 hxj
        rw [any_contains, e2] at hif
        rw [digs, List.filter_cons, if_neg (by rw [hif]; exact Bool.false_ne_true)] at htot
        refine' ⟨i, Nat.lt_succ_self i, x / 2 ^ n, wt, v, _, _, _, _, _, _, rfl, Int.ediv_nonneg hx (Int.le_of_lt q1), div_lt hxj, htot, ?f, N3⟩
        case f =>
          rw [e3, e2] at F3
          refine' frCongr F3 fun y => ?_
          by_cases h1 : y = Str.ofString "number"
          · subst h1; rfl
          by_cases h2 : y = Str.ofString "weight"
          · subst h2; rfl
          by_cases h3 : y = Str.ofString "told"
          · subst h3; rfl
          by_cases h4 : y = Str.ofString "digit"
          · subst h4; rfl
          simp only [if_neg h1, if_neg h2, if_neg h3, if_neg h4]
    · k_steps
      refine WhlIf.no (decide_eq_false h0) ?_
      k_steps
      obtain rfl : x = 0 := by omega
      rw [val_filter_zero, Int.mul_zero, Int.add_zero] at htot
      subst htot
      exact ret (.ret _) _ _ _ _ trivial F2 N2 ⟨rfl, _, rfl⟩
  · refine' ⟨a, 1, 0, _, _, _, _, _, _, rfl, ha, hak, ?e, ?f, N1⟩
    case e => rw [Int.one_mul, Int.zero_add]
    case f =>
      refine' frCongr F1 fun y => ?_
      by_cases h1 : y = Str.ofString "number"
      · subst h1; rfl
      by_cases h2 : y = Str.ofString "weight"
      · subst h2; rfl
      by_cases h3 : y = Str.ofString "told"
      · subst h3; rfl
      by_cases h4 : y = Str.ofString "digit"
      · subst h4; rfl
      simp only [if_neg h1, if_neg h2, if_neg h3, if_neg h4]
end Mine
end PartB13

section PartB14
open PySem PySem.W PyProof.Rows PySem.Calls
namespace Mine
set_option maxRecDepth 100000
set_option maxHeartbeats 2000000

theorem filter_at (P : Int → Bool) (ds : List Int) {i : Nat} {d : Int} (h : ds[i]? = some d) (hp : P d = true) : ((ds.take i).filter P).length < (ds.filter P).length ∧ (ds.filter P).getD ((ds.take i).filter P).length 0 = d := by
  obtain ⟨hi, e⟩ := List.getElem?_eq_some_iff.mp h
  have e1 : ds.filter P = (ds.take i).filter P ++ d :: (ds.drop (i + 1)).filter P := by
    conv => lhs; rw [← List.take_append_drop i ds, drop_cons ds hi, List.filter_append, e, List.filter_cons, if_pos hp]
  rw [e1]
  refine ⟨by simp, ?_⟩
  rw [List.getD_eq_getElem?_getD, List.getElem?_append_right (Nat.le_refl _), Nat.sub_self]
  rfl
theorem filter_split (P : Int → Bool) : ∀ l : List Int, (l.filter P).length + (l.filter fun d => !P d).length = l.length
  | [] => rfl
  | a :: l => by
    have := filter_split P l
    cases h : P a <;> simp [h] <;> omega
theorem take_next {α : Type} (ds : List α) {i : Nat} {d : α} (h : ds[i]? = some d) : ds.take (i + 1) = ds.take i ++ [d] := by
  obtain ⟨hi, e⟩ := List.getElem?_eq_some_iff.mp h
  rw [List.take_add_one, h]
  rfl

theorem Nx {h₀ h : Heap} {L S : Addr} {vs : List Value} {v : Value} {n : Nat} {R0 own : List (Addr × Obj)} (N : News h₀ L h ((S, listOf (vs.toArray.push v) n) :: (R0 ++ own))) : News h₀ L h (((S, listOf (vs ++ [v]).toArray n) :: R0) ++ own) := by
  rw [List.push_toArray] at N
  exact N

theorem woven (w : World) (p : Program) (loose : List Str) (mean : ExcName → Option Value) (mg mb : Str → Option Value) (base : Heap) (ld ls lk lf : Addr) (vd ss vk vf : List Value) (nd nn nk nf : Nat) (ds sk : List Int)
    (hd' : IntsAre vd ds) (hs : IntsAre ss sk) (hk : IntsAre vk (ds.filter fun d => !sk.contains d)) (hf : IntsAre vf (ds.filter fun d => sk.contains d)) (hlen : ds.length ≤ 1000) (rest : List (Addr × Obj)) :
    Ctr w p loose mean mg mb base 86 [.ref ld, .ref ls, .ref lk, .ref lf] 5 ((ld, listOf vd.toArray nd) :: (ls, listOf ss.toArray nn) :: (lk, listOf vk.toArray nk) :: (lf, listOf vf.toArray nf) :: rest)
      (fun r news' => ∃ S vs n, r = .ref S ∧ news' = (S, listOf vs.toArray n) :: (ld, listOf vd.toArray nd) :: (ls, listOf ss.toArray nn) :: (lk, listOf vk.toArray nk) :: (lf, listOf vf.toArray nf) :: rest ∧ IntsAre vs ds ∧
        ∀ q ∈ (ld, listOf vd.toArray nd) :: (ls, listOf ss.toArray nn) :: (lk, listOf vk.toArray nk) :: (lf, listOf vf.toArray nf) :: rest, q.1 < S) := by
  w_on
  w_top on
  refine' Ctr.top (need := 4) (binds := [(Str.ofString "digits", .ref ld), (Str.ofString "skip", .ref ls), (Str.ofString "kept", .ref lk), (Str.ofString "fallen", .ref lf)]) ?k1 ?k2 ?k3 ?k4 ?k5 ?k6 ?k7 ?k8 ?_
  case k1 => k_is
  case k2 => k_is
  case k3 => intro s; exact BindsTo.of_eq rfl
  case k4 => exact locs rfl
  case k5 => exact rfl
  case k6 => exact rfl
  case k7 => exact rfl
  case k8 => decide
  intro dp un gd outer A₀ h₀ L s R E' B F X N T C1 C2 hLt hdp hun ret
  iterate 11 walk1
  rename_i S _ l1 _ _ F1 N1
  refine For_invVF F1 rfl rfl ?_
  walk1
  refine iter_invNL (vs := vd) (nn := nd) (ns := ds) (fun i m₁ nx => ∃ vs n t₁, nx = (S, listOf vs.toArray n) :: (ld, listOf vd.toArray nd) :: (ls, listOf ss.toArray nn) :: (lk, listOf vk.toArray nk) :: (lf, listOf vf.toArray nf) :: rest ∧ IntsAre vs (ds.take i) ∧
      ∀ y, y ≠ Str.ofString "digit" → m₁ y = (fun y => if y = Str.ofString "one" then some (.int ((ds.take i).filter fun d => !sk.contains d).length t₁) else if y = Str.ofString "row" then some (.ref S) else
        List.lookup y [(Str.ofString "digits", Value.ref ld), (Str.ofString "skip", .ref ls), (Str.ofString "kept", .ref lk), (Str.ofString "fallen", .ref lf)].reverse) y)
    rfl (.tail _ (.head _)) hd' F1 N1 ?_ ?_ ?_
  · exact ⟨[], 0, _, rfl, .nil, fun y _ => rfl⟩
  · rintro i d t m₁ news₁ h tk own hdi _ hoff _ ⟨vs, n, t₁, rfl, hv, hm⟩ F2 N2
    have hm2 : (ls, listOf ss.toArray nn) ∈ (S, listOf vs.toArray n) :: (ld, listOf vd.toArray nd) :: (ls, listOf ss.toArray nn) :: (lk, listOf vk.toArray nk) :: (lf, listOf vf.toArray nf) :: rest := by simp
    clear F1 N1
    have F3 := frCongr F2 (m' := fun y => if y = Str.ofString "digit" then some (.int d t) else if y = Str.ofString "one" then some (.int ((ds.take i).filter fun d => !sk.contains d).length t₁) else if y = Str.ofString "row" then some (.ref S) else
        List.lookup y [(Str.ofString "digits", Value.ref ld), (Str.ofString "skip", .ref ls), (Str.ofString "kept", .ref lk), (Str.ofString "fallen", .ref lf)].reverse) fun y => by
      by_cases h : y = Str.ofString "digit"
      · simp only [if_pos h]
      · simp only [if_neg h]; exact hm y h
    clear F2 hm hm2
    obtain ⟨hi, hdd⟩ := List.getElem?_eq_some_iff.mp hdi
    have hlt := List.length_take_of_le (Nat.le_of_lt hi)
    have hsp := filter_split (fun d => sk.contains d) (ds.take i)
    have hv1 := hv.length
    have hne : ∀ p ∈ ((ld, listOf vd.toArray nd) :: (ls, listOf ss.toArray nn) :: (lk, listOf vk.toArray nk) :: (lf, listOf vf.toArray nf) :: rest) ++ own, p.1 ≠ S := by
      intro p hp
      rcases List.mem_append.mp hp with hp | hp
      · simp only [List.mem_cons] at hp
        rcases hp with rfl | rfl | rfl | rfl | hp
        · exact Nat.ne_of_lt l1.1
        · exact Nat.ne_of_lt l1.2.1
        · exact Nat.ne_of_lt l1.2.2.1
        · exact Nat.ne_of_lt l1.2.2.2.1
        · exact Nat.ne_of_lt (allLt_all l1.2.2.2.2 p hp)
      · exact hoff p hp S (.head _)
    iterate 9 walk1
    · rename _ = true => hc
      rw [any_contains] at hc
      have g := filter_at (fun d => sk.contains d) ds hdi hc
      iterate 19 walk1
      refine item_list_ints (news_list (nn := nf) N2 (by simp)) hf (by omega) (by omega) (by omega) fun t2 => ?_
      have eg : (List.filter (fun d => sk.contains d) ds).getD ((((ds.take i).length : Nat) : Int) - (((ds.take i).filter fun d => !sk.contains d).length : Nat)).toNat 0 = d := by
        rw [← g.2]
        congr 1
        omega
      rw [eg]
      walk1
      refine append_K F3 N2 (.head hne) (fun h3 F4 N4 => ?_) (by rw [List.size_toArray, hv1, hlt]; exact Nat.le_trans (by omega) (show (1000 : Nat) ≤ sizeLine by decide))
      clear F3 N2
      iterate 3 walk1
      refine InvEndN.intro F4 (Nx N4) ⟨.tail _ (.head _), vs ++ [.int d t2], n + 1, t₁, rfl, ?_, ?_⟩ rfl ?_ ?_
      · rw [take_next ds hdi]; exact ints_snoc hv d t2
      · intro y hy
        have e : (ds.take (i + 1)).filter (fun d => !sk.contains d) = (ds.take i).filter fun d => !sk.contains d := by
          rw [take_next ds hdi, List.filter_append, List.filter_cons, if_neg (by rw [hc]; decide), List.filter_nil, List.append_nil]
        rw [e]; exact if_neg hy
      · intro q hq; exact List.mem_append.mpr (.inl hq)
      · intro q hq; exact List.mem_append.mpr (.inr hq)
    · rename _ = false => hc
      rw [any_contains] at hc
      have g := filter_at (fun d => !sk.contains d) ds hdi (by rw [hc]; rfl)
      iterate 10 walk1
      refine item_list_ints (news_list (nn := nk) N2 (by simp)) hk (by omega) (by omega) (by omega) fun t2 => ?_
      rw [Int.toNat_natCast, g.2]
      walk1
      refine append_K F3 N2 (.head hne) (fun h3 F4 N4 => ?_) (by rw [List.size_toArray, hv1, hlt]; exact Nat.le_trans (by omega) (show (1000 : Nat) ≤ sizeLine by decide))
      clear F3 N2
      iterate 8 walk1
      rename Fr _ _ _ _ => F5
      rename News _ _ _ _ => N5
      refine' InvEndN.intro F5 (Nx N5) ⟨.tail _ (.head _), vs ++ [.int d t2], n + 1, _, rfl, ?cA, ?cB⟩ rfl ?cC ?cD
      case cA => rw [take_next ds hdi]; exact ints_snoc hv d t2
      case cB =>
        intro y hy
        have e : ((ds.take (i + 1)).filter (fun d => !sk.contains d)).length = ((ds.take i).filter fun d => !sk.contains d).length + 1 := by
          rw [take_next ds hdi, List.filter_append, List.filter_cons, if_pos (by rw [hc]; rfl), List.filter_nil, List.length_append]
          rfl
        rw [e]
        by_cases h1 : y = Str.ofString "one"
        · subst h1; rfl
        simp only [if_neg h1, if_neg hy]
      case cC => intro q hq; exact List.mem_append.mpr (.inl hq)
      case cD => intro q hq; exact List.mem_append.mpr (.inr hq)
  · rintro m₁ news₁ h tk _ ⟨vs, n, t₁, rfl, hv, hm⟩ F2 N2
    rw [List.take_length] at hv
    have F3 := frCongr F2 (m' := fun y => if y = Str.ofString "row" then some (.ref S) else m₁ y) fun y => by
      by_cases h : y = Str.ofString "row"
      · rw [if_pos h, h]; exact hm _ (by decide)
      · rw [if_neg h]
    clear F1 N1 F2
    dsimp only
    k_steps
    exact ret (.ret _) _ _ _ _ trivial F3 N2 ⟨S, vs, n, rfl, rfl, hv, fun q hq => by
      simp only [List.mem_cons] at hq
      rcases hq with rfl | rfl | rfl | rfl | hq
      · exact l1.1
      · exact l1.2.1
      · exact l1.2.2.1
      · exact l1.2.2.2.1
      · exact allLt_all l1.2.2.2.2 q hq⟩
end Mine
end PartB14

section PartB16
open PySem PySem.W PyProof.Rows PySem.Calls PyProof.Rows.LCg PyProof.Rows.LCt
namespace Mine
set_option maxRecDepth 100000

theorem ints_snoc' {vs : List Value} {ns : List Int} (h : IntsAre vs ns) (d : Int) (t : Tok) : IntsAre (vs ++ [.int d t]) (ns ++ [d]) := by
  induction h with
  | nil => exact .cons d t .nil
  | cons a b _ ih => exact .cons a b ih

/-- the turns of a comprehension over a range with one test, that keeps the item itself -/
theorem comp_turns {prog : Program} {w : World} {A : Around} {h₀ : Heap} {L : Addr} {m : Str → Option Value} {env : Env} {ct elt : Expr} {x : Str} {scope : Scope} {cl : List (Str × Addr)} {s : Shared} {Fin : List Value → List (Addr × Obj) → Prop} {a : Int} {news : List (Addr × Obj)} {n : Nat} (P : Int → Bool)
    (turn : ∀ (i : Nat) t I oI C oC D ys m₂ h tk (E' : Value → Shared → Prop) (QT : Value → Shared → Prop) (QF : Shared → Prop), NsObj oC m₂ → m₂ x = some (.int (a + i) t) → Fr h₀ L h m → News h₀ L h ((I, oI) :: (C, oC) :: (D, lst ys) :: news) → Off3 I C D news → ((@Ne Nat I C) ∧ (@Ne Nat I D) ∧ (@Ne Nat C D)) →
      (P (a + i) = true → ∀ t' h' tk', Fr h₀ L h' m → News h₀ L h' ((I, oI) :: (C, oC) :: (D, lst ys) :: news) → QT (.int (a + i) t') { s with heap := h', toks := tk' }) →
      (P (a + i) = false → ∀ h' tk', Fr h₀ L h' m → News h₀ L h' ((I, oI) :: (C, oC) :: (D, lst ys) :: news) → QF { s with heap := h', toks := tk' }) →
      wpAny (model prog w) A (isTrue ct (compEnvC scope cl C env) (eval ct (compEnvC scope cl C env))) (fun ok s' => if ok = true then wpAny (model prog w) A (eval elt (compEnvC scope cl C env)) QT E' s' else QF s') E' { s with heap := h, toks := tk })
    (fin : ∀ ys, IntsAre ys ((rangeKs a n).filter P) → Fin ys news) :
    ∀ (k i : Nat) (ys : List Value), i + k = n → IntsAre ys (((rangeKs a n).take i).filter P) → CompRestT prog w A h₀ L m env ct elt x scope cl s (fun _ => True) (fun i v => ∃ t, v = .int (a + (i : Int)) t) Fin k i ys news := by
  intro k
  induction k with
  | zero =>
    intro i ys hi hy
    obtain rfl : i = n := by omega
    rw [List.take_of_length_le (by rw [rangeKs_length]; exact Nat.le_refl _)] at hy
    exact fin ys hy
  | succ k ih =>
    intro i ys hi hy
    have hat : (rangeKs a n)[i]? = some (a + (i : Int)) := by
      have hlt : i < n := by omega
      simp [rangeKs, hlt]
    have ht : (rangeKs a n).take (i + 1) = (rangeKs a n).take i ++ [a + (i : Int)] := by
      rw [List.take_add_one, hat]; rfl
    refine CompRestT.succ ?_
    rintro v I oI C oC D m₂ h tk E' ⟨t, rfl⟩ hC hx F N off ne
    refine turn i t I oI C oC D ys m₂ h tk E' _ _ hC hx F N off ne (fun hp t' h' tk' F' N' => ?_) (fun hp h' tk' F' N' => ?_)
    · refine ⟨h', tk', news, rfl, F', N', off, trivial, ih (i + 1) _ (by omega) ?_⟩
      rw [ht, List.filter_append, List.filter_cons, if_pos hp]
      exact ints_snoc' hy _ _
    · refine ⟨h', tk', news, rfl, F', N', off, trivial, ih (i + 1) _ (by omega) ?_⟩
      rw [ht, List.filter_append, List.filter_cons, if_neg (by rw [hp]; decide), List.filter_nil, List.append_nil]
      exact hy
end Mine
end PartB16

section PartB15
open PySem PySem.W PyProof.Rows PySem.Calls
namespace Mine
set_option maxRecDepth 100000
set_option maxHeartbeats 4000000

theorem ndig_bound {n : Nat} {a : Int} (hn : 2 ≤ n) (hn4 : n ≤ 4) (ha : 0 ≤ a) (hb : a < 2 ^ 30) : n * ndig n a ≤ 33 ∧ ndig n a ≤ 16 := by
  have hbits : Builtin.Int.intBits a ≤ 30 := intBits_le_iff.mpr (by
    have : (2 : Int) ^ 30 = 1073741824 := by decide
    have : (2 : Nat) ^ 30 = 1073741824 := by decide
    omega)
  unfold ndig
  have h1 := Nat.mul_div_le (Builtin.Int.intBits a + n - 1) n
  exact ⟨by omega, Nat.div_le_of_le_mul (by omega)⟩

theorem TabOK.dropT {line col line' col' : Nat} {qual qual' : Str} {ps ps' : Array Value} {a : Addr} {tl rest rest' : List (Addr × Obj)} (h : TabOK line col qual ps (tl ++ (a, tabObj ps') :: rest)) (h' : TabOK line' col' qual' ps' rest') : TabOK line col qual ps (tl ++ rest) := by
  rcases h with h | ⟨c, oc, vs, t, h1, h2, h3, h4⟩
  · exact .inl h
  · refine .inr ⟨c, oc, vs, t, h1, ?_, h3, h4⟩
    simp only [List.mem_append, List.mem_cons] at h2 ⊢
    rcases h2 with h2 | h2 | h2
    · exact .inl h2
    · cases h2
      cases h3
      rcases h' with rfl | ⟨c', oc', vs', t', rfl, _, _, _⟩
      · cases h4
      · cases h4
    · exact .inr h2

theorem TabOK.norm {ps p2 : Array Value} {tl rest1 : List (Addr × Obj)} {l1 l2 l3 c : Addr} {a1 a2 a3 : Array Value} {n1 n2 n3 : Nat} {oS : Obj} {v : Option Value}
    (h : TabOK 20 4 (Str.ofString "_digits2int.<locals>.inner") ps (tl ++ (l1, listOf a1 n1) :: (l2, listOf a2 n2) :: (l3, listOf a3 n3) :: (c, oS) :: (16, tabObj p2) :: rest1)) (dS : oS.data = .cell v)
    (h2 : TabOK 5 4 (Str.ofString "_int2digits.<locals>.inner") p2 rest1) : TabOK 20 4 (Str.ofString "_digits2int.<locals>.inner") ps (tl ++ rest1) := by
  refine ((((h.drop ?_).drop ?_).drop ?_).drop ?_).dropT h2
  · intro z hz; cases hz
  · intro z hz; cases hz
  · intro z hz; cases hz
  · intro z hz; rw [dS] at hz; cases hz

theorem two23 {a : Addr} (h : 23 < a) : a ≠ 23 ∧ a ≠ 16 := ⟨Nat.ne_of_gt h, Nat.ne_of_gt (Nat.lt_trans (by decide) h)⟩

abbrev lholdsPost (R0 : List (Addr × Obj)) (r : Value) (news' : List (Addr × Obj)) : Prop :=
  ∃ p1 p2 R1, r = .bool true ∧ news' = (23, tabObj p1) :: (16, tabObj p2) :: R1 ∧ (∀ q ∈ R0, q ∈ R1) ∧ TabOK 20 4 (Str.ofString "_digits2int.<locals>.inner") p1 R1 ∧ TabOK 5 4 (Str.ofString "_int2digits.<locals>.inner") p2 R1 ∧ ∀ q ∈ R1, q.1 ≠ 23 ∧ q.1 ≠ 16

theorem lholds (w : World) (p : Program) (loose : List Str) (mean : ExcName → Option Value) (mg mb : Str → Option Value) (base : Heap) (a : Int) (n : Nat) (ha0 : 0 ≤ a) (ha1 : a < 2 ^ 30) (hn1 : 2 ≤ n) (hn2 : n ≤ 4)
    (ta t : Tok) (ls : Addr) (ss : List Value) (nn : Nat) (sk : List Int) (hs : IntsAre ss sk) (p1 p2 : Array Value) (rest : List (Addr × Obj)) (hr : ∀ q ∈ (ls, listOf ss.toArray nn) :: rest, q.1 ≠ 23 ∧ q.1 ≠ 16)
    (tab1 : TabOK 20 4 (Str.ofString "_digits2int.<locals>.inner") p1 ((ls, listOf ss.toArray nn) :: rest)) (tab2 : TabOK 5 4 (Str.ofString "_int2digits.<locals>.inner") p2 ((ls, listOf ss.toArray nn) :: rest)) :
    CtrS w p loose mean mg mb base 91 [.int a ta, .int n t, .ref ls] 60 ((23, tabObj p1) :: (16, tabObj p2) :: (ls, listOf ss.toArray nn) :: rest) (lholdsPost ((ls, listOf ss.toArray nn) :: rest)) := by
  w_on
  w_top on
  refine' CtrS.topC (need := 59) (binds := [(Str.ofString "number", .int a ta), (Str.ofString "bits", .int n t), (Str.ofString "skip", .ref ls)]) ?k1 ?k2 ?k3 ?k4 ?k5 ?k6 ?k7 ?k8 ?_
  case k1 => k_is
  case k2 => k_is
  case k3 => intro s; exact BindsTo.of_eq rfl
  case k4 => exact rfl
  case k5 => decide +kernel
  case k6 => exact rfl
  case k7 => exact rfl
  case k8 => exact rfl
  intro L' cells Y hLt dp un gd outer A₀ h₀ s R E' B F XB N TB C1 C2 hdp hun ret
  have X := XB.keeps B.stays
  have T := TB.keeps B.stays
  k_cells Y
  rename_i oS dS
  replace dS : oS.data = .cell (some (.ref ls)) := dS
  replace F : Fr h₀ L' s.heap (fun y => if y = Str.ofString "bits" then some (.int n t) else if y = Str.ofString "number" then some (.int a ta) else none) := F
  have h23 := ltN (hLt _ (.head _))
  dsimp only at h23
  iterate 10 walk1
  refine ⟨X.keeps F.keep, ?_⟩
  try dsimp only [List.nil_append]
  refine Ctr.use (i2d w p loose mean mg mb base a n ha0 ha1 hn1 hn2 ta t p2 ((L' + 1, oS) :: (23, tabObj p1) :: (ls, listOf ss.toArray nn) :: rest) ?r1 ?r2) B F X (News.sub N ?r3) T C1 C2 rfl (by omega) (by omega) ?_
  case r1 =>
    intro q hq
    simp only [List.mem_cons] at hq
    rcases hq with rfl | rfl | hq
    · refine neN ?_; dsimp only; omega
    · exact (by decide : (23 : Nat) ≠ 16)
    · exact (hr q (List.mem_cons.mpr hq)).2
  case r2 => exact tab2.mono fun q hq => .tail _ (.tail _ hq)
  case r3 =>
    intro q hq
    simp only [List.mem_cons, List.cons_append, List.nil_append] at hq ⊢
    rcases hq with rfl | rfl | rfl | rfl | hq <;> simp [*]
  rintro r nwA h1 tk1 F1 N1 ⟨ld, vd, nd, p2', tlA, rfl, hvd, rfl, tabA, ltA⟩
  clear F N
  obtain ⟨rest1, hR1⟩ : ∃ rest1, rest1 = tlA ++ rest := ⟨_, rfl⟩
  have N1' : News h₀ L' h1 ((ld, listOf vd.toArray nd) :: (ls, listOf ss.toArray nn) :: (L' + 1, oS) :: (23, tabObj p1) :: (16, tabObj p2') :: rest1) := News.sub N1 fun q hq => by
    rw [hR1] at hq
    simp only [List.mem_cons, List.mem_append] at hq ⊢
    rcases hq with rfl | rfl | rfl | rfl | rfl | hq | hq <;> simp [*]
  have tabA1 : TabOK 5 4 (Str.ofString "_int2digits.<locals>.inner") p2' rest1 := by
    rw [hR1]
    refine ((tabA.drop ?_).dropT tab1).drop ?_
    · intro z hz; rw [dS] at hz; cases hz
    · intro z hz; cases hz
  have tabB1 : TabOK 20 4 (Str.ofString "_digits2int.<locals>.inner") p1 rest1 := by
    rw [hR1]
    exact (TabOK.drop (tl := []) tab1 (by intro z hz; cases hz)).mono fun q hq => List.mem_append.mpr (.inr hq)
  have hr1 : ∀ q ∈ rest1, q.1 ≠ 23 ∧ q.1 ≠ 16 := by
    rw [hR1]
    intro q hq
    rcases List.mem_append.mp hq with hq | hq
    · exact two23 (ltA q (.tail _ hq) (23, tabObj p1) (by simp))
    · exact hr q (.tail _ hq)
  have hsub1 : ∀ q ∈ rest, q ∈ rest1 := fun q hq => by rw [hR1]; exact List.mem_append.mpr (.inr hq)
  have hls : ls ≠ 23 ∧ ls ≠ 16 := hr (ls, listOf ss.toArray nn) (.head _)
  have hld : 23 < ld := ltA _ (.head _) (23, tabObj p1) (by simp)
  clear N1 tabA ltA hR1 tab1 tab2 hr
  walk1
  rename_i hS FS NS

  iterate 11 walk1
  refine ⟨X.keeps FS.keep, ?_⟩
  try dsimp only [List.nil_append]
  have hb := ndig_bound hn1 hn2 ha0 ha1
  have hdl : (digs n a (ndig n a)).length ≤ 1000 := by rw [digs_length]; omega
  refine CtrS.use (filt w p loose mean mg mb base ld ls vd ss nd nn (digs n a (ndig n a)) sk hvd hs hdl ((L' + 1, oS) :: (23, tabObj p1) :: (16, tabObj p2') :: rest1)) B FS XB NS TB C1 C2 rfl (by omega) (by omega) ?_
  rintro r nwB h2 tk2 g1 KT1 B1 F2 N2 ⟨lk, vk, nk, rfl, rfl, hvk, ltK⟩
  clear FS NS B X T
  have X1 := XB.keeps B1.stays
  have T1 := TB.keeps B1.stays
  have hlk : 23 < lk := ltK (23, tabObj p1) (by simp)
  walk1
  rename_i hS2 FS NS
  iterate 9 walk1
  refine LCt.ListComp_T (F₀ := FS) (by with_unfolding_all rfl) (by decide) (by rfl) (by decide) (by rfl) ?_
  iterate 10 walk1
  rename IsRange _ _ _ _ _ _ _ _ => hRg
  rename Fr _ _ _ _ => FR
  rename News _ _ _ _ => NR
  have h234 : n = 2 ∨ n = 3 ∨ n = 4 := by omega
  refine LCt.CompSrcT.range (n := 2 ^ n) rfl FR NR hRg (by rcases h234 with rfl | rfl | rfl <;> decide) (by rcases h234 with rfl | rfl | rfl <;> decide) (by rcases h234 with rfl | rfl | rfl <;> decide) fun gR => ?_
  clear hRg FR NR
  refine comp_turns (fun d => !sk.contains d) ?turn ?fin (2 ^ n) 0 [] (Nat.zero_add _) .nil
  case turn =>
    intro i ti I oI C oC D ys m₂ h tk E2 QT QF hC hx F N off ne hT hF
    k_steps
    all_goals
      rename_i hc
      rw [any_contains] at hc
      first | exact hT (by rw [hc]; rfl) _ _ _ F N | exact hF (by rw [hc]; rfl) _ _ F N | exact hT hc _ _ _ F N | exact hF hc _ _ F N
  case fin =>
    intro ys hys D h3 tk3 F3 N3' off1
    have N3 : News g1 L' h3 ((ld, listOf vd.toArray nd) :: (D, listOf ys.toArray ys.length) :: (lk, listOf vk.toArray nk) :: (ls, listOf ss.toArray nn) :: (L' + 1, oS) :: (23, tabObj p1) :: (16, tabObj p2') :: rest1) := News.sub N3' fun q hq => by
      simp only [List.mem_cons] at hq ⊢
      rcases hq with rfl | rfl | rfl | rfl | rfl | rfl | rfl | hq <;> simp [*]
    rename IntsAre vk _ => hvk
    clear N3' off1
    walk1
    refine ⟨X1.keeps F3.keep, ?_⟩
    try dsimp only [List.nil_append, List.cons_append]
    refine CtrS.use (filt w p loose mean mg mb base ld D vd ys nd ys.length (digs n a (ndig n a)) _ hvd hys hdl ((lk, listOf vk.toArray nk) :: (ls, listOf ss.toArray nn) :: (L' + 1, oS) :: (23, tabObj p1) :: (16, tabObj p2') :: rest1)) B1 F3 XB N3 TB C1 C2 rfl (by omega) (by omega) ?_
    rintro r nwC h4 tk4 g2 KT2 B2 F4 N4 ⟨lf, vf, nf, rfl, rfl, hvf, ltF⟩
    clear F3 N3 B1 X1 T1
    have X2 := XB.keeps B2.stays
    have T2 := TB.keeps B2.stays
    have KT := KT1.trans KT2
    clear KT1 KT2
    have hlf : 23 < lf := ltF (23, tabObj p1) (by simp)
    have hdd : Digits n (digs n a (ndig n a)) := digs_digits n _ a
    have eF : ((digs n a (ndig n a)).filter fun d => !((rangeKs 0 (2 ^ n)).filter fun d => !sk.contains d).contains d) = (digs n a (ndig n a)).filter fun d => sk.contains d := by
      apply List.filter_congr
      intro d hd
      obtain ⟨d0, d1⟩ := hdd d hd
      have hm : d ∈ rangeKs 0 (2 ^ n) := by
        refine List.mem_map.mpr ⟨d.toNat, List.mem_range.mpr ?_, by omega⟩
        have e : ((2 ^ n : Nat) : Int) = (2 : Int) ^ n := PySem.W.kbt_cast n
        omega
      cases hc : sk.contains d with
      | true => simp only [List.contains_eq_mem, List.mem_filter] at hc ⊢; simp_all
      | false => simp only [List.contains_eq_mem, List.mem_filter] at hc ⊢; simp_all
    rw [eF] at hvf
    have N5 : News g2 L' h4 ((ld, listOf vd.toArray nd) :: (ls, listOf ss.toArray nn) :: (lk, listOf vk.toArray nk) :: (lf, listOf vf.toArray nf) :: (L' + 1, oS) :: (23, tabObj p1) :: (16, tabObj p2') :: rest1) := News.sub N4 fun q hq => by
      simp only [List.mem_cons] at hq ⊢
      rcases hq with rfl | rfl | rfl | rfl | rfl | rfl | rfl | hq <;> simp [*]
    clear N4 ltF ltK eF hys
    walk1
    rename Fr _ _ _ _ => F6
    rename News _ _ _ _ => N6
    have hlens := filter_split (fun d => sk.contains d) (digs n a (ndig n a))
    have hl1 := hvk.length
    have hl2 := hvf.length
    have hl3 := hvd.length
    have hl0 := digs_length n (ndig n a) a
    k_steps
    · exfalso; omega
    rename Fr _ _ _ _ => F7
    rename News _ _ _ _ => N7
    have hdK : Digits n ((digs n a (ndig n a)).filter fun d => !sk.contains d) := fun d hd => hdd d (List.mem_filter.mp hd).1
    have hdF : Digits n ((digs n a (ndig n a)).filter fun d => sk.contains d) := fun d hd => hdd d (List.mem_filter.mp hd).1
    have zK : n * ((digs n a (ndig n a)).filter fun d => !sk.contains d).length ≤ n * ndig n a := Nat.mul_le_mul (Nat.le_refl _) (by omega)
    have zF : n * ((digs n a (ndig n a)).filter fun d => sk.contains d).length ≤ n * ndig n a := Nat.mul_le_mul (Nat.le_refl _) (by omega)
    refine Ctr.use (d2i w p loose mean mg mb base lk vk nk _ hvk n (by omega) hn2 hdK (by omega) (by omega) t p1 ((ld, listOf vd.toArray nd) :: (ls, listOf ss.toArray nn) :: (lf, listOf vf.toArray nf) :: (L' + 1, oS) :: (16, tabObj p2') :: rest1) ?r1 (Nat.ne_of_gt hlk) ?r2) B2 F7 X2 (News.sub N7 ?r3) T2 C1 C2 rfl (by omega) (by omega) ?_
    case r1 =>
      intro q hq
      simp only [List.mem_cons] at hq
      rcases hq with rfl | rfl | rfl | rfl | rfl | hq
      · exact Nat.ne_of_gt hld
      · exact hls.1
      · exact Nat.ne_of_gt hlf
      · refine neN ?_; dsimp only; omega
      · exact (by decide : (16 : Nat) ≠ 23)
      · exact (hr1 q hq).1
    case r2 => exact tabB1.mono fun q hq => by simp [hq]
    case r3 =>
      intro q hq
      simp only [List.mem_cons] at hq ⊢
      rcases hq with rfl | rfl | rfl | rfl | rfl | rfl | rfl | hq <;> simp [*]
    rintro r nwD h5 tk5 F8 N8 ⟨⟨tK, rfl⟩, p1', tlD, rfl, tabD, ltD⟩
    obtain ⟨rest2, hR2⟩ : ∃ rest2, rest2 = tlD ++ rest1 := ⟨_, rfl⟩
    have tabB2 : TabOK 20 4 (Str.ofString "_digits2int.<locals>.inner") p1' rest2 := by rw [hR2]; exact TabOK.norm tabD dS tabA1
    have tabA2 : TabOK 5 4 (Str.ofString "_int2digits.<locals>.inner") p2' rest2 := tabA1.mono fun q hq => by rw [hR2]; exact List.mem_append.mpr (.inr hq)
    have N9 : News g2 L' h5 ((ld, listOf vd.toArray nd) :: (ls, listOf ss.toArray nn) :: (lk, listOf vk.toArray nk) :: (lf, listOf vf.toArray nf) :: (L' + 1, oS) :: (23, tabObj p1') :: (16, tabObj p2') :: rest2) := News.sub N8 fun q hq => by
      rw [hR2] at hq
      simp only [List.mem_cons, List.mem_append] at hq ⊢
      rcases hq with rfl | rfl | rfl | rfl | rfl | rfl | rfl | hq | hq <;> simp [*]
    have hr2 : ∀ q ∈ rest2, q.1 ≠ 23 ∧ q.1 ≠ 16 := by
      rw [hR2]
      intro q hq
      rcases List.mem_append.mp hq with hq | hq
      · exact two23 (ltD q hq (23, tabObj p1) (.head _))
      · exact hr1 q hq
    have hsub2 : ∀ q ∈ rest, q ∈ rest2 := fun q hq => by rw [hR2]; exact List.mem_append.mpr (.inr (hsub1 q hq))
    clear N8 F7 N7 tabD ltD hR2 tabB1 tabA1 hr1 hsub1
    k_steps
    refine Ctr.use (d2i w p loose mean mg mb base lf vf nf _ hvf n (by omega) hn2 hdF (by omega) (by omega) t p1' ((ld, listOf vd.toArray nd) :: (ls, listOf ss.toArray nn) :: (lk, listOf vk.toArray nk) :: (L' + 1, oS) :: (16, tabObj p2') :: rest2) ?r1 (Nat.ne_of_gt hlf) ?r2) B2 F8 X2 (News.sub N9 ?r3) T2 C1 C2 rfl (by omega) (by omega) ?_
    case r1 =>
      intro q hq
      simp only [List.mem_cons] at hq
      rcases hq with rfl | rfl | rfl | rfl | rfl | hq
      · exact Nat.ne_of_gt hld
      · exact hls.1
      · exact Nat.ne_of_gt hlk
      · refine neN ?_; dsimp only; omega
      · exact (by decide : (16 : Nat) ≠ 23)
      · exact (hr2 q hq).1
    case r2 => exact tabB2.mono fun q hq => by simp [hq]
    case r3 =>
      intro q hq
      simp only [List.mem_cons] at hq ⊢
      rcases hq with rfl | rfl | rfl | rfl | rfl | rfl | rfl | hq <;> simp [*]
    rintro r nwE h6 tk6 F10 N10 ⟨⟨tF, rfl⟩, p1'', tlE, rfl, tabE, ltE⟩
    obtain ⟨rest3, hR3⟩ : ∃ rest3, rest3 = tlE ++ rest2 := ⟨_, rfl⟩
    have tabB3 : TabOK 20 4 (Str.ofString "_digits2int.<locals>.inner") p1'' rest3 := by rw [hR3]; exact TabOK.norm tabE dS tabA2
    have tabA3 : TabOK 5 4 (Str.ofString "_int2digits.<locals>.inner") p2' rest3 := tabA2.mono fun q hq => by rw [hR3]; exact List.mem_append.mpr (.inr hq)
    have N11 : News g2 L' h6 ((ls, listOf ss.toArray nn) :: (ld, listOf vd.toArray nd) :: (lk, listOf vk.toArray nk) :: (lf, listOf vf.toArray nf) :: (L' + 1, oS) :: (23, tabObj p1'') :: (16, tabObj p2') :: rest3) := News.sub N10 fun q hq => by
      rw [hR3] at hq
      simp only [List.mem_cons, List.mem_append] at hq ⊢
      rcases hq with rfl | rfl | rfl | rfl | rfl | rfl | rfl | hq | hq <;> simp [*]
    have hr3 : ∀ q ∈ rest3, q.1 ≠ 23 ∧ q.1 ≠ 16 := by
      rw [hR3]
      intro q hq
      rcases List.mem_append.mp hq with hq | hq
      · exact two23 (ltE q hq (23, tabObj p1') (.head _))
      · exact hr2 q hq
    have hsub3 : ∀ q ∈ rest, q ∈ rest3 := fun q hq => by rw [hR3]; exact List.mem_append.mpr (.inr (hsub2 q hq))
    clear N10 F8 N9 tabE ltE hR3 tabB2 tabA2 hr2 hsub2
    k_steps
    rename_i lp _ lLp _ F12 N12
    have eK : (fun d => sk.contains d == false) = fun d => !sk.contains d := by funext d; cases sk.contains d <;> rfl
    have eT : (fun d => sk.contains d == true) = fun d => sk.contains d := by funext d; cases sk.contains d <;> rfl
    have hakk := ndig_lt (n := n) (by omega) ha0
    have sF := fun (b : Bool) (tl : List (Addr × Obj)) => sieved w p loose mean mg mb base ls ss nn sk hs a ta t n (ndig n a) b ha0 hakk hn1 hn2 (by omega) tl
    refine Ctr.use (sF false ((lp, listOf [Value.int (val n ((digs n a (ndig n a)).filter fun d => !sk.contains d)) tK, Value.int (val n ((digs n a (ndig n a)).filter fun d => sk.contains d)) tF].toArray 0) :: (ld, listOf vd.toArray nd) :: (lk, listOf vk.toArray nk) :: (lf, listOf vf.toArray nf) :: (L' + 1, oS) :: (23, tabObj p1'') :: (16, tabObj p2') :: rest3)) B2 F12 X2 (News.sub N12 ?r1) T2 C1 C2 rfl (by omega) (by omega) ?_
    case r1 =>
      intro q hq
      simp only [List.mem_cons] at hq ⊢
      rcases hq with rfl | rfl | rfl | rfl | rfl | rfl | rfl | rfl | hq <;> simp [*]
    rintro r nwG h7 tk7 F13 N13 ⟨rfl, tG, rfl⟩
    clear F12 N12 
    rw [eK]
    k_steps
    refine Ctr.use (sF true _) B2 F13 X2 N13 T2 C1 C2 rfl (by omega) (by omega) ?_
    rintro r nwH h8 tk8 F14 N14 ⟨rfl, tH, rfl⟩
    clear F13 N13 sF
    rw [eT]
    k_steps
    rename Fr _ _ _ _ => F15
    rename News _ _ _ _ => N15
    refine Ctr.use (woven w p loose mean mg mb base ld ls lk lf vd ss vk vf nd nn nk nf (digs n a (ndig n a)) sk hvd hs hvk hvf hdl ((L' + 1, oS) :: (23, tabObj p1'') :: (16, tabObj p2') :: rest3)) B2 F15 X2 (News.sub N15 ?r1) T2 C1 C2 rfl (by omega) (by omega) ?_
    case r1 =>
      intro q hq
      simp only [List.mem_cons] at hq ⊢
      rcases hq with rfl | rfl | rfl | rfl | rfl | rfl | rfl | hq <;> simp [*]
    rintro r nwI h9 tk9 F16 N16 ⟨lw, vw, nw, rfl, rfl, hvw, ltW⟩
    have hlw : 23 < lw := ltW (23, tabObj p1'') (by simp)
    clear F15 N15 ltW
    k_steps
    have z0 : n * (digs n a (ndig n a)).length ≤ 60 := by rw [hl0]; omega
    refine Ctr.use (d2i w p loose mean mg mb base lw vw nw _ hvw n (by omega) hn2 hdd z0 (by omega) t p1'' ((ls, listOf ss.toArray nn) :: (ld, listOf vd.toArray nd) :: (lk, listOf vk.toArray nk) :: (L' + 1, oS) :: (16, tabObj p2') :: rest3) ?r1 (Nat.ne_of_gt hlw) ?r2) B2 F16 X2 (News.sub N16 ?r3) T2 C1 C2 rfl (by omega) (by omega) ?_
    case r1 =>
      intro q hq
      simp only [List.mem_cons] at hq
      rcases hq with rfl | rfl | rfl | rfl | rfl | hq
      · exact hls.1
      · exact Nat.ne_of_gt hld
      · exact Nat.ne_of_gt hlk
      · refine neN ?_; dsimp only; omega
      · exact (by decide : (16 : Nat) ≠ 23)
      · exact (hr3 q hq).1
    case r2 => exact tabB3.mono fun q hq => by simp [hq]
    case r3 =>
      intro q hq
      simp only [List.mem_cons] at hq ⊢
      rcases hq with rfl | rfl | rfl | rfl | rfl | rfl | rfl | hq <;> simp [*]
    rintro r nwJ h10 tk10 F17 N17 ⟨⟨tJ, rfl⟩, p1f, tlJ, rfl, tabJ, ltJ⟩
    have tabB4 := TabOK.norm tabJ dS tabA3
    rw [val_digs n (ndig n a) a ha0 hakk]
    clear F16 N16
    k_steps
    rename Fr _ _ _ _ => F18
    rename News _ _ _ _ => N18
    dsimp only
    refine ret (.ret _) _ ((23, tabObj p1f) :: (16, tabObj p2') :: (ls, listOf ss.toArray nn) :: (tlJ ++ rest3)) _ _ g2 trivial KT F18 (News.sub N18 ?q1) ⟨p1f, p2', (ls, listOf ss.toArray nn) :: (tlJ ++ rest3), ?q2, rfl, ?q3, ?q4, ?q5, ?q6⟩
    case q1 =>
      intro q hq
      simp only [List.mem_cons, List.mem_append] at hq ⊢
      rcases hq with rfl | rfl | rfl | hq | hq <;> simp [*]
    case q2 => simp
    case q3 =>
      intro q hq
      simp only [List.mem_cons, List.mem_append] at hq ⊢
      rcases hq with rfl | hq
      · exact .inl rfl
      · exact .inr (.inr (hsub3 q hq))
    case q4 => exact tabB4.mono fun q hq => .tail _ hq
    case q5 => exact tabA3.mono fun q hq => .tail _ (List.mem_append.mpr (.inr hq))
    case q6 =>
      intro q hq
      simp only [List.mem_cons, List.mem_append] at hq
      rcases hq with rfl | hq | hq
      · exact hls
      · exact two23 (ltJ q hq (23, tabObj p1'') (.head _))
      · exact hr3 q hq
end Mine
end PartB15

section PartF6
set_option maxRecDepth 100000
namespace Mine
open PySem PySem.W PySem.Calls PyProof.Rows
def Held (P : Prop) : Prop := P
theorem held {P : Prop} (h : Held P) : P := h

section
variable {prog : Program} {w : World} {A : Around} {E : Value → Shared → Prop} {s : Shared} {env : Env}
/-- what a turn of a for does -/
def ForTurn (prog : Program) (w : World) (A : Around) (E : Value → Shared → Prop) (env : Env) (v : Str) (body : List Stmt) (Q : Flow → Shared → Prop) (I : Nat → Shared → Prop) (n : Nat) (r : Option Value) (s₁ : Shared) : Prop := match r with
  | none => Q .next s₁
  | some y => wpAny (model prog w) A (storeName env v y) (fun _ s₂ => wpAny (model prog w) A (execs body env) (TurnEnd I n Q) E s₂) E s₁

theorem for_inv {v : Str} {px pos : Pos} {iter : PySem.Expr} {body : List Stmt} {Q : Flow → Shared → Prop} (I : Addr → Nat → Shared → Prop)
    (h : wpAny (model prog w) A (eval iter env) (fun xv s₁ => wpAny (model prog w) A (pyIter xv) (fun it s₂ => ∃ J n, it = .ref J ∧ I J n s₂) E s₁) E s)
    (turn : ∀ J n s', I J n s' → wpAny (model prog w) A (pyNext (.ref J)) (ForTurn prog w A E env v body Q (I J) n) E s')
    (hs : ∀ x, foldedSetIterable iter env x = pure x) (hE : PassesOwn (model prog w) A env E) :
    wpAny (model prog w) A (exec (.For (.Name v px) iter body [] pos) env) Q E s := by
  refine wpAny_For (wpAny_mono h (fun xv s₁ h₁ => wpAny_mono h₁ (fun it s₂ h₂ => ?_) fun _ _ z => z) fun _ _ z => z) hs
  obtain ⟨J, n, rfl, h₂⟩ := h₂
  refine codeAny_forLoop (R := fun r s' => match r with | .ok f => Q f s' | .error e => cameBackBy (model prog w) A env E e s') (I J) (fun n s' hI => ?_) n h₂
  refine wpAny_passesOwn hE (wpAny_mono (turn J n s' hI) (fun r s₁ hr => ?_) fun _ _ z => z)
  cases r with
  | none => exact wpAny_execs_nil hr
  | some y =>
    refine wpAny_passesOwn hE (wpAny_assign_Name (wpAny_mono (show wpAny _ _ _ _ _ _ from hr) (fun _ s₂ h₂ => ?_) fun _ _ z => z))
    refine wpAny_passesOwn hE (wpAny_mono h₂ (fun f s₃ h₃ => ?_) fun _ _ z => z)
    cases f with
    | next => exact h₃
    | cont => exact h₃
    | brk => exact h₃
    | ret _ => exact h₃
end

/-- the object of an iterator over a range -/
abbrev rangeItObj (x left : Int) : Obj := { cls := .type "range_iterator", data := .fields #[rawInt x, rawInt left, rawInt 1] }

section
variable {prog : Program} {w : World} {A : Around} {E : Value → Shared → Prop} {s : Shared} {h₀ : Heap} {L J : Addr} {m : Str → Option Value} {rest : List (Addr × Obj)} {x left : Int} {Q : Option Value → Shared → Prop}
theorem range_item (F : Fr h₀ L s.heap m) (N : News h₀ L s.heap ((J, rangeItObj x left) :: rest)) (hne : ∀ q ∈ rest, q.1 ≠ J) (hl : 0 < left)
    (h : ∀ h', Fr h₀ L h' m → News h₀ L h' ((J, rangeItObj (x + 1) (left - 1)) :: rest) → Q (some (.int x s.toks)) { s with heap := h', toks := s.toks + 1 }) : wpAny (model prog w) A (pyNext (.ref J)) Q E s := by
  have z := N _ (List.mem_cons_self ..)
  refine wpAny_pyNext_range_item (step := 1) z.1 hl fun h' hit sb => ?_
  refine h h' (F.change sb z.2.1 z.2.2) fun q hq => ?_
  rcases List.mem_cons.mp hq with rfl | hq
  · exact ⟨hit, z.2⟩
  · have y := N q (.tail _ hq)
    exact ⟨(sb.2 _ (hne q hq)).trans y.1, y.2⟩
theorem range_end (hh : A.handled = none) (F : Fr h₀ L s.heap m) (N : News h₀ L s.heap ((J, rangeItObj x left) :: rest)) (hne : ∀ q ∈ rest, q.1 ≠ J) (hl : left ≤ 0)
    (h : ∀ h', Fr h₀ L h' m → News h₀ L h' rest → Q none { s with heap := h' }) : wpAny (model prog w) A (pyNext (.ref J)) Q E s := by
  have z := N _ (List.mem_cons_self ..)
  refine wpAny_pyNext_range_end (step := 1) hh z.1 hl fun h' eb => ?_
  have hJ : ∀ b o, h₀.get? b = some o → b ≠ J := fun b o e q => by rw [q, z.2.2] at e; cases e
  refine h h' ⟨F.ns.extBut eb (Ne.symm z.2.1), fun b o e => eb b o (hJ b o e) (F.keep b o e), F.above⟩ fun q hq => ?_
  have y := N q (.tail _ hq)
  exact ⟨eb _ _ (hne q hq) y.1, y.2⟩
end
end Mine
end PartF6

section PartF7
set_option maxRecDepth 100000
namespace Mine
open PySem PySem.W PySem.Calls PyProof.Rows

/-- how a turn of a for over a range ends -/
def RangeEnd (h₀ : Heap) (L J : Addr) (N i : Nat) (P : Nat → (Str → Option Value) → List (Addr × Obj) → Prop) (s : Shared) (Q : Flow → Shared → Prop) (f : Flow) (s' : Shared) : Prop := match f with
  | .next => ∃ h' tk' m' news', s' = { s with heap := h', toks := tk' } ∧ Fr h₀ L h' m' ∧ News h₀ L h' ((J, rangeItObj ((i + 1 : Nat) : Int) ((N : Int) - ((i + 1 : Nat) : Int))) :: news') ∧ (∀ q ∈ news', q.1 ≠ J) ∧ P (i + 1) m' news'
  | .cont => False
  | .brk => False
  | .ret v => Q (.ret v) s'

section
variable {prog : Program} {w : World} {A : Around} {E : Value → Shared → Prop} {s : Shared} {h₀ : Heap} {L a : Addr} {cn : Str} {cs : Scope} {cd : Value}
/-- where the iterable of a for is a range -/
def RangeAt (h₀ : Heap) (L : Addr) (N : Nat) (P : Nat → (Str → Option Value) → List (Addr × Obj) → Prop) (s : Shared) (xv : Value) (s₁ : Shared) : Prop :=
  ∃ r t u v h tk m news, xv = .ref r ∧ s₁ = { s with heap := h, toks := tk } ∧ IsRange h r 0 N 1 t u v ∧ Fr h₀ L h m ∧ News h₀ L h news ∧ P 0 m news

theorem range_for {v : Str} {px pos : Pos} {iter : PySem.Expr} {body : List Stmt} {Q : Flow → Shared → Prop} (N : Nat) (P : Nat → (Str → Option Value) → List (Addr × Obj) → Prop)
    {m0 : Str → Option Value} (hF0 : Fr h₀ L s.heap m0) (hh : A.handled = none) (hsm : Builtin.Range.small 0 N 1 = true) (hsz : Builtin.Range.rangeSize 0 N 1 = (N : Int)) (hk : cs.kind = .function) (hv : (envOf cn cs L a cd).kindOf v = some .local)
    (h : wpAny (model prog w) A (eval iter (envOf cn cs L a cd)) (RangeAt h₀ L N P s) E s)
    (turn : ∀ J i m news h tk t, i < N → P i m news → (∀ q ∈ news, q.1 ≠ J) → Fr h₀ L h (fun y => if y = v then some (.int i t) else m y) → News h₀ L h ((J, rangeItObj ((i + 1 : Nat) : Int) ((N : Int) - ((i + 1 : Nat) : Int))) :: news) →
      wpAny (model prog w) A (execs body (envOf cn cs L a cd)) (RangeEnd h₀ L J N i P s Q) E { s with heap := h, toks := tk })
    (done : ∀ m news h tk, P N m news → Fr h₀ L h m → News h₀ L h news → Q .next { s with heap := h, toks := tk })
    (hs : ∀ x, foldedSetIterable iter (envOf cn cs L a cd) x = pure x) (hE : PassesOwn (model prog w) A (envOf cn cs L a cd) E) :
    wpAny (model prog w) A (exec (.For (.Name v px) iter body [] pos) (envOf cn cs L a cd)) Q E s := by
  refine for_inv (fun J n s' => ∃ i h tk m news, n = N - i ∧ i ≤ N ∧ s' = { s with heap := h, toks := tk } ∧ Fr h₀ L h m ∧ News h₀ L h ((J, rangeItObj (i : Int) ((N : Int) - (i : Int))) :: news) ∧ (∀ q ∈ news, q.1 ≠ J) ∧ P i m news) ?_ ?_ hs hE
  · refine wpAny_mono h (fun xv s₁ h₁ => ?_) fun _ _ z => z
    obtain ⟨r, t, u, vv, hp, tk, m, news, rfl, rfl, hr, F, N₁, hP⟩ := h₁
    refine wpAny_pyIter_range hr hsm ?_
    refine ⟨_, N, rfl, 0, _, _, m, news, rfl, Nat.zero_le _, rfl, F.push _, ?_, fun q hq => Nat.ne_of_lt (Heap.lt_size (N₁ q hq).1), hP⟩
    rw [hsz]
    have e : (N : Int) - ((0 : Nat) : Int) = N := by omega
    rw [e]
    exact News.push F N₁ _ rfl
  · rintro J n s' ⟨i, hp, tk, m, news, rfl, hi, rfl, F, N₁, hne, hP⟩
    by_cases hlt : i < N
    · refine range_item F N₁ hne (by omega) fun h' F' N' => ?_
      show wpAny _ _ _ _ _ _
      refine stN F' N' (fun h₂ F₂ N₂ => ?_) hk hv
      have e1 : ((i : Int) + 1) = ((i + 1 : Nat) : Int) := by omega
      have e2 : (N : Int) - (i : Int) - 1 = (N : Int) - ((i + 1 : Nat) : Int) := by omega
      rw [e1, e2] at N₂
      refine wpAny_mono (turn J i m news h₂ _ _ hlt hP hne F₂ N₂) (fun f s₃ hf => ?_) fun _ _ z => z
      cases f with
      | next =>
        obtain ⟨h₃, tk₃, m₃, news₃, rfl, F₃, N₃, hne₃, hP₃⟩ := hf
        exact ⟨N - (i + 1), by omega, i + 1, h₃, tk₃, m₃, news₃, rfl, hlt, rfl, F₃, N₃, hne₃, hP₃⟩
      | cont => exact hf.elim
      | brk => exact hf.elim
      | ret v => exact hf
    · refine range_end hh F N₁ hne (by omega) fun h' F' N' => ?_
      obtain rfl : i = N := by omega
      exact done _ _ _ _ hP F' N'
end
end Mine
end PartF7

section PartB17
open PySem PySem.W PyProof.Rows PySem.Calls
namespace Mine
set_option maxRecDepth 100000
set_option maxHeartbeats 8000000
theorem law_numbers {ys : List Value} {xs : List Int} (h : IntsAre ys (List.map (fun k' => k'.fmod (10 ^ Int.toNat 9)) (List.take 5 xs ++ [27182818, 31415926]))) :
    ∃ ns, IntsAre ys ns ∧ ns.length ≤ 7 ∧ ∀ i, i < ns.length → 0 ≤ ns.getD i 0 ∧ ns.getD i 0 < 2 ^ 30 := by
  refine ⟨_, h, ?_, fun i hi => ?_⟩
  · simp only [List.length_map, List.length_append, List.length_take, List.length_cons, List.length_nil]
    omega
  · have hb : ∀ x ∈ List.map (fun k' => k'.fmod (10 ^ Int.toNat 9)) (List.take 5 xs ++ [27182818, 31415926]), 0 ≤ x ∧ x < 2 ^ 30 := by
      intro x hx
      obtain ⟨k, _, rfl⟩ := List.mem_map.mp hx
      have e : (10 : Int) ^ Int.toNat 9 = 1000000000 := by decide
      have e2 : (2 : Int) ^ 30 = 1073741824 := by decide
      rw [e, e2, Int.fmod_eq_emod_of_nonneg _ (by decide)]
      omega
    rw [List.getD_eq_getElem?_getD, List.getElem?_eq_getElem hi, Option.getD_some]
    exact hb _ (List.getElem_mem hi)

theorem law_skip {h₀ h : Heap} {L l : Addr} {x1 x2 : Int} {u1 u2 : Tok} {rest : List (Addr × Obj)} (N : News h₀ L h ((l, listOf [Value.int x1 u1, Value.int x2 u2].toArray 0) :: rest)) :
    ∃ ss sk, IntsAre ss sk ∧ News h₀ L h ((l, listOf ss.toArray 0) :: rest) := ⟨_, _, .cons _ _ (.cons _ _ .nil), N⟩

/-- with no frame outside, nothing turns -/
theorem turn_nil {g g' h : Heap} {L : Addr} {m : Str → Option Value} {news : List (Addr × Obj)} (T : KtsTurn [] g g') (F : Fr g' L h m) (N : News g' L h news) : Fr g L h m ∧ News g L h news := by
  have hk : ∀ b o, g.get? b = some o → g'.get? b = some o := fun b o e => T.other b o e (by simp)
  exact ⟨⟨F.ns, fun b o e => F.keep b o (hk b o e), by rw [← T.size]; exact F.above⟩, fun q hq => ⟨(N q hq).1, (N q hq).2.1, kts_none hk (N q hq).2.2⟩⟩

/-- the ledger without two addresses -/
abbrev but2 (S J : Addr) (R : List (Addr × Obj)) : List (Addr × Obj) := R.filter fun q => decide (q.1 ≠ S) && decide (q.1 ≠ J)
theorem mem_but2 {S J : Addr} {R : List (Addr × Obj)} {q : Addr × Obj} : q ∈ but2 S J R ↔ q ∈ R ∧ q.1 ≠ S ∧ q.1 ≠ J := by
  simp [but2, List.mem_filter]
theorem TabOK.filt {line col : Nat} {qual : Str} {ps a : Array Value} {n : Nat} {x left : Int} {S J L : Addr} {h₀ h : Heap} {R : List (Addr × Obj)} (tab : TabOK line col qual ps R) (N : News h₀ L h R) (hS : (S, listOf a n) ∈ R) (hJ : (J, rangeItObj x left) ∈ R) :
    TabOK line col qual ps (but2 S J R) := by
  rcases tab with e | ⟨c, oc, vs, t, h1, h2, h3, h4⟩
  · exact .inl e
  · refine .inr ⟨c, oc, vs, t, h1, mem_but2.mpr ⟨h2, fun e => ?_, fun e => ?_⟩, h3, h4⟩
    · have y := (N _ h2).1
      have z := (N _ hS).1
      dsimp only at y z e
      rw [e, z] at y
      cases y
      cases h3
    · have y := (N _ h2).1
      have z := (N _ hJ).1
      dsimp only at y z e
      rw [e, z] at y
      cases y
      cases h3
      cases h4

theorem eq_bool_at (A : Around) (s : Shared) (b : Bool) : SeqAt.EqAt A s (.bool b) (.bool b) true := fun prog w E Q hq => by
  unfold eqBool
  refine wpAny_holding ?_
  rw [if_pos (by cases b <;> decide)]
  exact wpAny_bind (wpAny_rule (wpAny_pure hq))
theorem eq_trues {prog : Program} {w : World} {A : Around} {E : Value → Shared → Prop} {s : Shared} {a b : Addr} {k : Nat} {Q : Value → Shared → Prop} (ha : s.heap.IsList a (List.replicate k (Value.bool true)).toArray) (hb : s.heap.IsList b (List.replicate k (Value.bool true)).toArray)
    (hu : A.units < cLine) (h : Q (.bool true) s) : wpAny (model prog w) A (compareOp .Eq (.ref a) (.ref b)) Q E s := by
  refine SeqAt.eq_listAt (e := fun _ => true) ha hb rfl hu (fun j h1 h2 => ?_) ?_
  · have e : (List.replicate k (Value.bool true)).toArray[j] = Value.bool true := by simp
    rw [e]
    exact eq_bool_at _ _ _
  · have e : (List.range (List.replicate k (Value.bool true)).toArray.size).all (fun _ => true) = true := by simp
    rw [e]
    exact h

local macro_rules | `(tactic| walk_at "binaryOp Mult ref int") => `(tactic| (refine held ?_))
local macro_rules | `(tactic| walk_at "compareOp Eq ref ref") => `(tactic| (refine held ?_))
local macro_rules | `(tactic| walk_at "call builtin:list.append") => `(tactic| (refine held ?_))
local macro_rules | `(tactic| walk_at "exec For Name Call cons nil") => `(tactic| (refine held ?_))
local macro_rules | `(tactic| walk_at "call ref") => `(tactic| (refine held ?_))
local macro_rules | `(tactic| walk_at "subscriptTail Name Name ref int") => `(tactic| (refine held ?_))
theorem whole : PySem.Challenge.rw_ij0153_01.Holds := hd (by
  k_go0
  all_goals try k_fold
  k_steps
  rename Below _ _ _ _ => B
  rename Top _ _ _ _ _ _ => T
  rename Frag.In _ _ => X
  rename CodeHd _ (27, 23).fst (27, 23).snd => C1
  rename CodeHd _ (20, 16).fst (20, 16).snd => C2
  change CodeHd _ 27 23 at C1
  change CodeHd _ 20 16 at C2
  rename IntsAre ys _ => hys0
  rename_i D _ _ oD S _ lS _ F N
  obtain ⟨ns, hys, hn7, hns⟩ := law_numbers hys0
  clear hys0
  have hyl := hys.length
  obtain ⟨ny, hny⟩ : ∃ ny, ny = ys.length := ⟨_, rfl⟩
  have N0 := News.sub (b := [(S, listOf #[] 0), (23, tabObj #[]), (16, tabObj #[]), (D, listOf ys.toArray ny)]) N (by
    intro q hq
    rw [hny] at hq
    simp only [List.mem_cons, List.not_mem_nil, or_false] at hq
    rcases hq with rfl | rfl | rfl | rfl <;> simp)
  clear hny
  clear N
  unfold Held
  have hl7 : ns.length = 0 ∨ ns.length = 1 ∨ ns.length = 2 ∨ ns.length = 3 ∨ ns.length = 4 ∨ ns.length = 5 ∨ ns.length = 6 ∨ ns.length = 7 := by omega
  refine range_for ns.length (fun i m nw => ∃ p1 p2 nt R0, nw = (S, listOf (List.replicate i (Value.bool true)).toArray nt) :: (23, tabObj p1) :: (16, tabObj p2) :: R0 ∧ (D, listOf ys.toArray ny) ∈ R0 ∧ (∀ q ∈ R0, q.1 ≠ S ∧ q.1 ≠ 23 ∧ q.1 ≠ 16) ∧
      TabOK 20 4 (Str.ofString "_digits2int.<locals>.inner") p1 R0 ∧ TabOK 5 4 (Str.ofString "_int2digits.<locals>.inner") p2 R0 ∧
      m (Str.ofString "told") = some (Value.ref S) ∧ m (Str.ofString "numbers") = some (Value.ref D))
    F rfl (by rcases hl7 with e | e | e | e | e | e | e | e <;> rw [e] <;> decide) (by rcases hl7 with e | e | e | e | e | e | e | e <;> rw [e] <;> decide) rfl rfl ?iter ?turn ?done (by intro _; rfl) (by passes_own)
  case iter =>
    k_steps
    rename IsRange _ _ _ _ _ _ _ _ => hR
    rename Fr _ _ _ _ => F1
    rename News _ _ _ _ => N1
    refine ⟨_, _, _, _, _, _, _, _, rfl, rfl, hR, F1, N1, #[], #[], 0, [(D, listOf ys.toArray ny)], rfl, .head _, ?_, .inl rfl, .inl rfl, rfl, rfl⟩
    intro q hq
    rw [List.mem_singleton.mp hq]
    exact ⟨Nat.ne_of_lt lS.1, Ne.symm oD.2.2.2.1, Ne.symm oD.2.2.2.2⟩
  case turn =>
    clear F N0
    rintro J i m nw h tk t hi ⟨p1, p2, nt, R0, rfl, hD, hR0, tab1, tab2, hm1, hm2⟩ hneJ F N
    have F1 := frCongr F (m' := fun y => if y = Str.ofString "place" then some (.int i t) else if y = Str.ofString "told" then some (.ref S) else if y = Str.ofString "numbers" then some (.ref D) else m y) fun y => by
      by_cases h1 : y = Str.ofString "place"
      · simp only [if_pos h1]
      · simp only [if_neg h1]
        by_cases h2 : y = Str.ofString "told"
        · simp only [if_pos h2]; rw [h2]; exact hm1
        · simp only [if_neg h2]
          by_cases h3 : y = Str.ofString "numbers"
          · simp only [if_pos h3]; rw [h3]; exact hm2
          · simp only [if_neg h3]
    clear F
    have hin : (i : Int) < (ns.length : Int) := by omega
    have hi0 : (0 : Int) ≤ (i : Int) := by omega
    have hi63 : (i : Int) < 2 ^ 63 := by omega
    k_steps
    rename News _ _ _ _ => N2
    refine item_list_ints (ns := ns) (vs := ys) (news_list (nn := ny) N2 (by simp [hD])) hys hi0 hin hi63 fun t2 => ?_
    k_steps
    rename News _ _ _ _ => N3
    refine item_list_ints (ns := ns) (vs := ys) (news_list (nn := ny) N3 (by simp [hD])) hys hi0 hin hi63 fun t3 => ?_
    k_steps
    rename News _ _ _ _ => N4
    refine item_list_ints (ns := ns) (vs := ys) (news_list (nn := ny) N4 (by simp [hD])) hys hi0 hin hi63 fun t4 => ?_
    k_steps
    rename_i lsk _ l5 _ F5
    obtain ⟨ss, sk, hss, N5⟩ := law_skip N4
    clear N4
    have en : 2 + (i : Int).fmod 3 = ((2 + i % 3 : Nat) : Int) := by
      rw [Int.fmod_eq_emod_of_nonneg _ (by decide)]
      omega
    have ei : ((i : Int)).toNat = i := Int.toNat_natCast i
    have hil : i < ns.length := hi
    obtain ⟨ha0, ha1⟩ := hns i hil
    unfold Held
    try dsimp only [List.nil_append]
    rw [en, ei]
    refine CtrS.use (outer := []) (dp := callerA.depth + 1) (un := callerA.units + 3) (lholds _ _ _ _ _ _ _ (ns.getD i 0) (2 + i % 3) ha0 ha1 (by omega) (by omega) t4 _ lsk ss 0 sk hss p1 p2 ((J, rangeItObj ((i + 1 : Nat) : Int) ((ns.length : Int) - ((i + 1 : Nat) : Int))) :: (S, listOf (List.replicate i (Value.bool true)).toArray nt) :: R0) ?r1 ?r2 ?r3) B F5 X (News.sub N5 ?r4) T C1 C2 rfl (by decide) (by decide) ?_
    case r1 =>
      intro q hq
      simp only [List.mem_cons] at hq
      rcases hq with rfl | rfl | rfl | hq
      · exact ⟨Nat.ne_of_gt l5.2.2.1, Nat.ne_of_gt l5.2.2.2.1⟩
      · exact ⟨Ne.symm (hneJ (23, tabObj p1) (by simp)), Ne.symm (hneJ (16, tabObj p2) (by simp))⟩
      · exact ⟨Nat.ne_of_gt lS.2.2.2.2.1, Nat.ne_of_gt lS.2.2.2.2.2⟩
      · exact (hR0 q hq).2
    case r2 => exact tab1.mono fun q hq => by simp [hq]
    case r3 => exact tab2.mono fun q hq => by simp [hq]
    case r4 =>
      intro q hq
      simp only [List.mem_cons] at hq ⊢
      rcases hq with rfl | rfl | rfl | rfl | rfl | hq <;> simp [*]
    rintro r nw h6 tk6 g6 KT _ F6' N6' ⟨p1', p2', R1, rfl, rfl, hsub, tabA, tabB, hR1⟩
    obtain ⟨F6, N6⟩ := turn_nil KT F6' N6'
    clear F6' N6' KT F5 N5
    have hS1 : (S, listOf (List.replicate i (Value.bool true)).toArray nt) ∈ R1 := hsub _ (by simp)
    have hJ1 : (J, rangeItObj ((i + 1 : Nat) : Int) ((ns.length : Int) - ((i + 1 : Nat) : Int))) ∈ R1 := hsub _ (by simp)
    have tabA' := tabA.filt (News.sub N6 fun q hq => .tail _ (.tail _ hq)) hS1 hJ1
    have tabB' := tabB.filt (News.sub N6 fun q hq => .tail _ (.tail _ hq)) hS1 hJ1
    have hSJ : S ≠ J := hneJ (S, _) (.head _)
    have hD2 : (D, listOf ys.toArray ny) ∈ but2 S J R1 := mem_but2.mpr ⟨hsub _ (by simp [hD]), (hR0 _ hD).1, hneJ (D, listOf ys.toArray ny) (by simp [hD])⟩
    have hR2 : ∀ q ∈ but2 S J R1, q.1 ≠ S ∧ q.1 ≠ 23 ∧ q.1 ≠ 16 := fun q hq => ⟨(mem_but2.mp hq).2.1, hR1 q (mem_but2.mp hq).1⟩
    have hJ2 : ∀ q ∈ but2 S J R1, q.1 ≠ J := fun q hq => (mem_but2.mp hq).2.2
    have N7 := News.sub (b := (S, listOf (List.replicate i (Value.bool true)).toArray nt) :: (J, rangeItObj ((i + 1 : Nat) : Int) ((ns.length : Int) - ((i + 1 : Nat) : Int))) :: (23, tabObj p1') :: (16, tabObj p2') :: but2 S J R1) N6 (by
      intro q hq
      simp only [List.mem_cons] at hq ⊢
      rcases hq with rfl | rfl | rfl | rfl | hq
      · exact .inr (.inr hS1)
      · exact .inr (.inr hJ1)
      · exact .inl rfl
      · exact .inr (.inl rfl)
      · exact .inr (.inr (mem_but2.mp hq).1))
    have hJ23 : J ≠ 23 := Ne.symm (hneJ (23, tabObj p1) (by simp))
    have hJ16 : J ≠ 16 := Ne.symm (hneJ (16, tabObj p2) (by simp))
    generalize but2 S J R1 = R2 at *
    clear N6 tabA tabB hS1 hJ1 hsub hR1 hneJ hR0 tab1 tab2 hD hss l5
    k_steps
    unfold Held
    refine append_K F6 N7 (.head ?hne) (fun h7 F7 N8 => ?_) ?hsz
    case hne =>
      intro q hq
      simp only [List.mem_cons] at hq
      rcases hq with rfl | rfl | rfl | hq
      · exact Ne.symm hSJ
      · exact Ne.symm (Nat.ne_of_gt lS.2.2.2.2.1)
      · exact Ne.symm (Nat.ne_of_gt lS.2.2.2.2.2)
      · exact (hR2 q hq).1
    case hsz =>
      rw [List.size_toArray, List.length_replicate]
      exact Nat.le_trans (show i ≤ 7 by omega) (by decide)
    clear F6 N7
    rw [List.push_toArray, ← List.replicate_succ'] at N8
    iterate 2 walk1
    refine ⟨h7, _, _, (S, listOf (List.replicate (i + 1) (Value.bool true)).toArray (nt + 1)) :: (23, tabObj p1') :: (16, tabObj p2') :: R2, rfl, F7, News.sub N8 ?n1, ?n2, p1', p2', nt + 1, R2, rfl, hD2, hR2, tabA', tabB', rfl, rfl⟩
    case n1 =>
      intro q hq
      simp only [List.mem_cons] at hq ⊢
      rcases hq with rfl | rfl | rfl | rfl | hq <;> simp [*]
    case n2 =>
      intro q hq
      simp only [List.mem_cons] at hq
      rcases hq with rfl | rfl | rfl | hq
      · exact hSJ
      · exact Ne.symm hJ23
      · exact Ne.symm hJ16
      · exact hJ2 q hq
  case done =>
    clear F N0
    rintro m nw h tk ⟨p1, p2, nt, R0, rfl, hD, hR0, _, _, hm1, hm2⟩ F N
    have F1 := frCongr F (m' := fun y => if y = Str.ofString "told" then some (.ref S) else if y = Str.ofString "numbers" then some (.ref D) else m y) fun y => by
      by_cases h2 : y = Str.ofString "told"
      · simp only [if_pos h2]; rw [h2]; exact hm1
      · simp only [if_neg h2]
        by_cases h3 : y = Str.ofString "numbers"
        · simp only [if_pos h3]; rw [h3]; exact hm2
        · simp only [if_neg h3]
    have N1 := News.sub (b := [(S, listOf (List.replicate ns.length (Value.bool true)).toArray nt), (D, listOf ys.toArray ny), (23, tabObj p1), (16, tabObj p2)]) N (by
      intro q hq
      simp only [List.mem_cons, List.not_mem_nil, or_false] at hq ⊢
      rcases hq with rfl | rfl | rfl | rfl <;> simp [hD])
    clear F N hD hR0
    dsimp only
    k_steps
    unfold Held
    rename Fr _ _ _ _ => F2
    rename News _ _ _ _ => N2
    refine KMa.mul F2 N2 (vs := [.bool true]) (news_list (nn := 0) N2 (.head _)) (by omega) (by omega) (by simp; omega) (flat_replicate _ _) fun lt2 h5 F3 N3 l6 => ?_
    rw [Int.toNat_natCast] at N3
    k_steps
    unfold Held
    refine eq_trues (k := ns.length) (news_list (nn := nt) N3 (by simp)) (news_list (nn := 0) N3 (by simp)) (show callerA.units + 3 < cLine by decide) ?_
    k_steps)
end Mine
end PartB17

theorem PySem.Challenge.cw_ij0153_01_holds : PySem.Challenge.rw_ij0153_01.Holds := by
  exact Mine.whole
