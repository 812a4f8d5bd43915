import PyProof.Rows.All
import Wide.All
import OpenK.AllK
import Wide.FinOn
import PySem.Challenge.RW_ia0009_01
open PySem PySem.W PyProof.Rows
set_option Elab.async false
set_option maxRecDepth 100000
set_option maxHeartbeats 8000000
namespace Mine
open_top hd for PySem.Challenge.rw_ia0009_01
end Mine

namespace Mine
open PySem.Calls PySem.Spec
noncomputable abbrev LO : List Str := (looseW hd.view_39 [Str.ofString "bisect_right"] ++ List.map (fun x => x.name) (recsOf hd.view_39) ++ List.map (fun x => x.fst) (litsOf hd.view_39) ++ List.map (fun x => x.name) (clssOf hd.view_39 (looseW hd.view_39 [Str.ofString "bisect_right"])))
def Hold (P : Prop) : Prop := P
theorem Hold.out {P : Prop} (h : Hold P) : P := h

abbrev fnScope (nms : List (Str × NameKind)) (ig ic : Bool) (mo : List (Str × Const)) : Scope := { kind := .function, names := nms, isGenerator := ig, isCoroutine := ic, more := mo }

/-- what inner of _int2digits stores -/
def digI (n : Int) : Nat → Int → Int → Int → List Int → List Int
  | 0, _, _, _, ns => ns
  | k + 1, x, L, R, ns =>
    if L + 1 = R then ns.set L.toNat x
    else digI n k (x.fdiv (2 ^ (((L + R).fdiv (2 ^ Int.toNat 1) - L) * n).toNat)) ((L + R).fdiv (2 ^ Int.toNat 1)) R
      (digI n k (Builtin.bitXor x (x.fdiv (2 ^ (((L + R).fdiv (2 ^ Int.toNat 1) - L) * n).toNat) * 2 ^ (((L + R).fdiv (2 ^ Int.toNat 1) - L) * n).toNat)) L ((L + R).fdiv (2 ^ Int.toNat 1)) ns)
theorem digI_length (n : Int) : ∀ (k : Nat) (x L R : Int) (ns : List Int), (digI n k x L R ns).length = ns.length
  | 0, _, _, _, _ => rfl
  | k + 1, x, L, R, ns => by
    unfold digI
    split
    · simp
    · rw [digI_length n k, digI_length n k]

/-- the contract of inner of _int2digits, at most k digits -/
def InnerAt (w : World) (mean : ExcName → Option Value) (mg mb : Str → Option Value) (base : Heap) (rest : List (Addr × Obj)) (D f : Addr) (n : Int) (k : Nat) : Prop :=
  ∀ (x lo hi : Int) (t1 t2 t3 : Tok) (ws : List Value) (ns : List Int) (c : Nat)
    (dp un : Nat) (gd : Option (List Code)) (cn : Str) (nms : List (Str × NameKind)) (ig ic : Bool) (mo : List (Str × Const)) (a : Addr) (ccd : Value) (cl : List (Str × Addr)) (outer : List Env) (A₀ : Around) (h₀ : Heap) (L : Addr) (m : Str → Option Value) (s : Shared) (Q E : Value → Shared → Prop),
    Below A₀ base outer h₀ → Fr h₀ L s.heap m → (hd.heap_39 w.params).In h₀ → Top topProg LO mean mg mb h₀ → News h₀ L s.heap ((D, listOf ws.toArray c) :: rest) → IntsAre ws ns →
    0 ≤ x → x < 64 → 0 ≤ lo → lo < hi → hi ≤ (ns.length : Int) → (ns.length : Int) ≤ 6 → hi ≤ lo + (k : Int) → dp + k + 4 < recursionLimit → un + 8 * k + 40 < cLine →
    (∀ (h' : Heap) (tk' : Nat) (ws' : List Value) (c' : Nat), Fr h₀ L h' m → News h₀ L h' ((D, listOf ws'.toArray c') :: rest) → IntsAre ws' (digI n k x lo hi ns) → Q .none { s with heap := h', toks := tk' }) →
    wpAny (model PySem.Challenge.rw_ia0009_01.row.prog w) (ktrTop dp un gd cn (fnScope nms ig ic mo) L a ccd cl outer) (call (.ref f) [.int x t1, .int lo t2, .int hi t3]) Q E s
theorem InnerAt.use {w : World} {mean : ExcName → Option Value} {mg mb : Str → Option Value} {base : Heap} {rest : List (Addr × Obj)} {D f : Addr} {n : Int} {k : Nat} (I : InnerAt w mean mg mb base rest D f n k)
    {x lo hi : Int} {t1 t2 t3 : Tok} {ws : List Value} {ns : List Int} {c : Nat} {dp un : Nat} {gd : Option (List Code)} {cn : Str} {nms : List (Str × NameKind)} {ig ic : Bool} {mo : List (Str × Const)} {a : Addr} {ccd : Value} {cl : List (Str × Addr)} {outer : List Env} {A₀ : Around} {h₀ : Heap} {L : Addr} {m : Str → Option Value} {s : Shared} {Q E : Value → Shared → Prop}
    (B : Below A₀ base outer h₀) (F : Fr h₀ L s.heap m) (X : (hd.heap_39 w.params).In h₀) (T : Top topProg LO mean mg mb h₀) {led : List (Addr × Obj)} (N : News h₀ L s.heap led) (hl : ∀ p ∈ (D, listOf ws.toArray c) :: rest, p ∈ led) (hi' : IntsAre ws ns)
    (b1 : 0 ≤ x) (b2 : x < 64) (b3 : 0 ≤ lo) (b4 : lo < hi) (b5 : hi ≤ (ns.length : Int)) (b6 : (ns.length : Int) ≤ 6) (b7 : hi ≤ lo + (k : Int)) (b8 : dp + k + 4 < recursionLimit) (b9 : un + 8 * k + 40 < cLine)
    (ret : ∀ (h' : Heap) (tk' : Nat) (ws' : List Value) (c' : Nat), Fr h₀ L h' m → News h₀ L h' ((D, listOf ws'.toArray c') :: rest) → IntsAre ws' (digI n k x lo hi ns) → Q .none { s with heap := h', toks := tk' }) :
    wpAny (model PySem.Challenge.rw_ia0009_01.row.prog w) (ktrTop dp un gd cn (fnScope nms ig ic mo) L a ccd cl outer) (call (.ref f) [.int x t1, .int lo t2, .int hi t3]) Q E s :=
  I x lo hi t1 t2 t3 ws ns c dp un gd cn nms ig ic mo a ccd cl outer A₀ h₀ L m s Q E B F X T (fun p hp => N p (hl p hp)) hi' b1 b2 b3 b4 b5 b6 b7 b8 b9 ret
theorem InnerAt.all {w : World} {mean : ExcName → Option Value} {mg mb : Str → Option Value} {base : Heap} {rest : List (Addr × Obj)} {D f : Addr} {n : Int}
    (step : ∀ k, InnerAt w mean mg mb base rest D f n k → InnerAt w mean mg mb base rest D f n (k + 1)) : ∀ k, InnerAt w mean mg mb base rest D f n k := by
  intro k
  induction k with
  | zero =>
    intro x lo hi _ _ _ _ _ _ _ _ _ _ _ _ _ _ _ _ _ _ _ _ _ _ _ _ _ _ _ _ _ _ _ _ _ _ h1 _ _ h2
    exact absurd h1 (by omega)
  | succ k ih => exact step k ih
theorem use_inner {w : World} {mean : ExcName → Option Value} {mg mb : Str → Option Value} {base g : Heap} {L : Addr} {h : Heap} {e1 e2 : Addr × Obj} {D f : Addr} {ws : List Value} {c : Nat} {tl : List (Addr × Obj)} {n : Int} {P : Prop}
    (_ : News g L h (e1 :: e2 :: (D, listOf ws.toArray c) :: tl)) (_ : e1.1 = f)
    (step : ∀ k, InnerAt w mean mg mb base (e1 :: e2 :: tl) D f n k → InnerAt w mean mg mb base (e1 :: e2 :: tl) D f n (k + 1))
    (next : (∀ k, InnerAt w mean mg mb base (e1 :: e2 :: tl) D f n k) → P) : P := next (InnerAt.all step)

theorem use_inner1 {w : World} {mean : ExcName → Option Value} {mg mb : Str → Option Value} {base g : Heap} {L : Addr} {h : Heap} {e1 : Addr × Obj} {D f : Addr} {ws : List Value} {c : Nat} {tl : List (Addr × Obj)} {n : Int} {P : Prop}
    (_ : News g L h (e1 :: (D, listOf ws.toArray c) :: tl)) (_ : e1.1 = f)
    (step : ∀ k, InnerAt w mean mg mb base (e1 :: tl) D f n k → InnerAt w mean mg mb base (e1 :: tl) D f n (k + 1))
    (next : (∀ k, InnerAt w mean mg mb base (e1 :: tl) D f n k) → P) : P := next (InnerAt.all step)

/-- a code table with one def within it: fresh, or filled -/
def tbL (P : Addr) (ln co : Int) : Option (Addr × Obj) → List (Addr × Obj)
  | none => [(P, tabObj #[])]
  | some q => [(P, tabObj #[rawInt ln, rawInt co, .ref q.1]), q]
def tbOk (qual : Str) : Option (Addr × Obj) → Prop
  | none => True
  | some q => ∃ vs t, q.2.data = .fields vs ∧ vs[1]? = some (.str qual t)
def Off (news tl : List (Addr × Obj)) : Prop := ∀ p ∈ news, ∀ q ∈ tl, p.1 ≠ q.1
theorem off_tab {news : List (Addr × Obj)} {P : Addr} {ln co : Int} {st : Option (Addr × Obj)} (h : Off news (tbL P ln co st)) : ∀ p ∈ news, p.1 ≠ P := by
  intro p hp
  cases st with
  | none => exact h p hp (P, tabObj #[]) (by simp [tbL])
  | some q => exact h p hp (P, tabObj #[rawInt ln, rawInt co, .ref q.1]) (by simp [tbL])
abbrev q30 : Str := (Str.ofString "_int2digits" ++ Str.ofString ".<locals>.") ++ Str.ofString "inner"
abbrev q37 : Str := (Str.ofString "_digits2int" ++ Str.ofString ".<locals>.") ++ Str.ofString "inner"
/-- the digits of a, n bits each -/
def digs (a n : Int) : List Int := digI n 6 a 0 ((List.replicate ((↑(Builtin.Int.intBits a) + n - 1).fdiv n).toNat [(0 : Int)]).flatten.length : Int) (List.replicate ((↑(Builtin.Int.intBits a) + n - 1).fdiv n).toNat [(0 : Int)]).flatten

theorem digs_of {a n : Int} {k : Nat} {ws : List Value} (e : (List.replicate ((↑(Builtin.Int.intBits a) + n - 1).fdiv n).toNat [(0 : Int)]).flatten.length = k) (I : IntsAre ws (digI n 6 a 0 (k : Int) (List.replicate ((↑(Builtin.Int.intBits a) + n - 1).fdiv n).toNat [(0 : Int)]).flatten)) : IntsAre ws (digs a n) := by
  subst e
  exact I
theorem fin_news {h₀ h : Heap} {L D P c : Addr} {od oc : Obj} {ln co : Int} {tb : Array Value} {news led : List (Addr × Obj)} (N : News h₀ L h led) (h1 : (D, od) ∈ led) (h2 : (P, tabObj tb) ∈ led) (h3 : tb = #[rawInt ln, rawInt co, .ref c]) (h4 : (c, oc) ∈ led) (h5 : ∀ p ∈ news, p ∈ led) :
    News h₀ L h ((D, od) :: (tbL P ln co (some (c, oc)) ++ news)) := by
  subst h3
  intro p hp
  simp only [tbL, List.cons_append, List.nil_append, List.mem_cons] at hp
  rcases hp with rfl | rfl | rfl | hp
  · exact N _ h1
  · exact N _ h2
  · exact N _ h4
  · exact N _ (h5 _ hp)
theorem off_make {D P c : Addr} {od oc : Obj} {ln co : Int} {news : List (Addr × Obj)} (h1 : D ≠ P) (h2 : D ≠ c) (h3 : ∀ p ∈ news, p.1 ≠ P) (h4 : ∀ p ∈ news, p.1 ≠ c) : Off ((D, od) :: news) (tbL P ln co (some (c, oc))) := by
  intro p hp q hq
  simp only [tbL, List.mem_cons, List.not_mem_nil, or_false] at hp hq
  rcases hp with rfl | hp
  · rcases hq with rfl | rfl
    · exact h1
    · exact h2
  · rcases hq with rfl | rfl
    · exact h3 p hp
    · exact h4 p hp

theorem xor_low : ∀ x < 64, ∀ s < 24, 0 ≤ Builtin.bitXor (x : Nat) ((x : Int).fdiv (2 ^ s) * 2 ^ s) ∧ Builtin.bitXor (x : Nat) ((x : Int).fdiv (2 ^ s) * 2 ^ s) < 64 := by decide +kernel
theorem xor_low' {x : Int} {s : Nat} (h0 : 0 ≤ x) (h1 : x < 64) (h2 : s < 24) : 0 ≤ Builtin.bitXor x (x.fdiv (2 ^ s) * 2 ^ s) ∧ Builtin.bitXor x (x.fdiv (2 ^ s) * 2 ^ s) < 64 := by
  obtain ⟨k, rfl⟩ := Int.eq_ofNat_of_zero_le h0
  exact xor_low k (by omega) s h2
theorem fdiv_low {x : Int} {s : Nat} (h0 : 0 ≤ x) (h1 : x < 64) : 0 ≤ x.fdiv (2 ^ s) ∧ x.fdiv (2 ^ s) < 64 := by
  obtain ⟨k, rfl⟩ := Int.eq_ofNat_of_zero_le h0
  have e : ((k : Int).fdiv (2 ^ s)) = ((k / 2 ^ s : Nat) : Int) := by
    rw [show ((2 : Int) ^ s) = ((2 ^ s : Nat) : Int) by simp]
    exact (Int.ofNat_fdiv ..).symm
  rw [e]
  have := Nat.div_le_self k (2 ^ s)
  generalize k / 2 ^ s = j at *
  omega
theorem mid_facts {lo hi : Int} (h : lo < hi) : lo ≤ (lo + hi).fdiv (2 ^ Int.toNat 1) ∧ (lo + hi).fdiv (2 ^ Int.toNat 1) < hi ∧ (lo + 1 = hi ∨ lo < (lo + hi).fdiv (2 ^ Int.toNat 1)) := by
  have e : (2 : Int) ^ Int.toNat 1 = 2 := by decide
  rw [e, Int.fdiv_eq_ediv_of_nonneg _ (by decide)]
  omega
theorem sh_small {lo hi n : Int} (h : lo < hi) (h3 : hi ≤ lo + 6) (h4 : 1 ≤ n) (h5 : n ≤ 4) : 0 ≤ ((lo + hi).fdiv (2 ^ Int.toNat 1) - lo) * n ∧ ((lo + hi).fdiv (2 ^ Int.toNat 1) - lo) * n < 24 := by
  have ⟨h6, h7, _⟩ := mid_facts h
  generalize (lo + hi).fdiv (2 ^ Int.toNat 1) = y at *
  have h8 : (y - lo) * n ≤ 5 * 4 := Int.mul_le_mul (by omega) h5 (by omega) (by omega)
  have h9 : 0 ≤ (y - lo) * n := Int.mul_nonneg (by omega) (by omega)
  omega
theorem digI_one {n x L R : Int} {k : Nat} {ns : List Int} (h : L + 1 = R) : digI n (k + 1) x L R ns = ns.set L.toNat x := by rw [digI, if_pos h]
theorem digI_two {n x L R : Int} {k : Nat} {ns : List Int} (h : ¬ L + 1 = R) : digI n (k + 1) x L R ns = digI n k (x.fdiv (2 ^ (((L + R).fdiv (2 ^ Int.toNat 1) - L) * n).toNat)) ((L + R).fdiv (2 ^ Int.toNat 1)) R
      (digI n k (Builtin.bitXor x (x.fdiv (2 ^ (((L + R).fdiv (2 ^ Int.toNat 1) - L) * n).toNat) * 2 ^ (((L + R).fdiv (2 ^ Int.toNat 1) - L) * n).toNat)) L ((L + R).fdiv (2 ^ Int.toNat 1)) ns) := by rw [digI, if_neg h]
end Mine

namespace Mine
open PySem.Calls PySem.Spec
/-- what inner of _digits2int gives back -/
def undig (n : Int) (ns : List Int) : Nat → Int → Int → Int
  | 0, _, _ => 0
  | k + 1, L, R =>
    if L + 1 = R then ns.getD L.toNat 0
    else undig n ns k ((L + R).fdiv (2 ^ Int.toNat 1)) R * 2 ^ (((L + R).fdiv (2 ^ Int.toNat 1) - L) * n).toNat + undig n ns k L ((L + R).fdiv (2 ^ Int.toNat 1))
theorem undig_one {n L R : Int} {k : Nat} {ns : List Int} (h : L + 1 = R) : undig n ns (k + 1) L R = ns.getD L.toNat 0 := by rw [undig, if_pos h]
theorem undig_two {n L R : Int} {k : Nat} {ns : List Int} (h : ¬ L + 1 = R) : undig n ns (k + 1) L R = undig n ns k ((L + R).fdiv (2 ^ Int.toNat 1)) R * 2 ^ (((L + R).fdiv (2 ^ Int.toNat 1) - L) * n).toNat + undig n ns k L ((L + R).fdiv (2 ^ Int.toNat 1)) := by rw [undig, if_neg h]
theorem undig_bound {n : Int} {ns : List Int} (hn : 0 ≤ n) (hv : ∀ v ∈ ns, 0 ≤ v ∧ v < 2 ^ n.toNat) : ∀ (k : Nat) (L R : Int), L < R → 0 ≤ undig n ns k L R ∧ undig n ns k L R < (2 ^ n.toNat) ^ (R - L).toNat
  | 0, L, R, h => by
    have : (0 : Int) < (2 ^ n.toNat) ^ (R - L).toNat := Int.pow_pos (Int.pow_pos (by decide))
    exact ⟨Int.le_refl _, this⟩
  | k + 1, L, R, h => by
    by_cases h1 : L + 1 = R
    · rw [undig_one h1, show (R - L).toNat = 1 by omega, Int.pow_succ, Int.pow_zero, Int.one_mul]
      have hp : (0 : Int) < 2 ^ n.toNat := Int.pow_pos (by decide)
      rw [List.getD_eq_getElem?_getD]
      cases e : ns[L.toNat]? with
      | none => exact ⟨Int.le_refl _, hp⟩
      | some v => exact hv v (List.mem_of_getElem? e)
    · rw [undig_two h1]
      have ⟨hm0, hm1, hm2⟩ := mid_facts h
      generalize (L + R).fdiv (2 ^ Int.toNat 1) = y at *
      have hm2 : L < y := by omega
      have ⟨a1, a2⟩ := undig_bound hn hv k y R hm1
      have ⟨b1, b2⟩ := undig_bound hn hv k L y hm2
      generalize undig n ns k y R = A at *
      generalize undig n ns k L y = C at *
      have e1 : (2 : Int) ^ ((y - L) * n).toNat = (2 ^ n.toNat) ^ (y - L).toNat := by
        rw [← Int.pow_mul]
        congr 1
        rw [Int.toNat_mul (by omega) hn, Nat.mul_comm]
      have e2 : ((2 : Int) ^ n.toNat) ^ (R - L).toNat = (2 ^ n.toNat) ^ (R - y).toNat * (2 ^ n.toNat) ^ (y - L).toNat := by
        rw [← Int.pow_add]
        congr 1
        omega
      rw [e1, e2]
      have pW : (0 : Int) < (2 ^ n.toNat) ^ (y - L).toNat := Int.pow_pos (Int.pow_pos (by decide))
      generalize ((2 : Int) ^ n.toNat) ^ (y - L).toNat = W at *
      generalize ((2 : Int) ^ n.toNat) ^ (R - y).toNat = V at *
      have h5 : (A + 1) * W ≤ V * W := Int.mul_le_mul_of_nonneg_right (by omega) (by omega)
      have h6 : 0 ≤ A * W := Int.mul_nonneg a1 (by omega)
      rw [Int.add_mul, Int.one_mul] at h5
      exact ⟨by omega, by omega⟩
theorem undig_small {n : Int} {ns : List Int} (h1 : 1 ≤ n) (h4 : n ≤ 4) (hv : ∀ v ∈ ns, 0 ≤ v ∧ v < 2 ^ n.toNat) (k : Nat) {L R : Int} (h : L < R) (h6 : R ≤ L + 6) : 0 ≤ undig n ns k L R ∧ undig n ns k L R < 16777216 := by
  have ⟨a, b⟩ := undig_bound (by omega) hv k L R h
  have c : ((2 : Int) ^ n.toNat) ^ (R - L).toNat ≤ 16777216 := by
    have e1 : n.toNat = 1 ∨ n.toNat = 2 ∨ n.toNat = 3 ∨ n.toNat = 4 := by omega
    have e2 : (R - L).toNat = 1 ∨ (R - L).toNat = 2 ∨ (R - L).toNat = 3 ∨ (R - L).toNat = 4 ∨ (R - L).toNat = 5 ∨ (R - L).toNat = 6 := by omega
    rcases e1 with e1 | e1 | e1 | e1 <;> rcases e2 with e2 | e2 | e2 | e2 | e2 | e2 <;> rw [e1, e2] <;> decide
  exact ⟨a, by omega⟩

/-- the contract of inner of _digits2int -/
def InnerBt (w : World) (mean : ExcName → Option Value) (mg mb : Str → Option Value) (base : Heap) (led : List (Addr × Obj)) (f : Addr) (n : Int) (ns : List Int) (k : Nat) : Prop :=
  ∀ (lo hi : Int) (t1 t2 : Tok)
    (dp un : Nat) (gd : Option (List Code)) (cn : Str) (nms : List (Str × NameKind)) (ig ic : Bool) (mo : List (Str × Const)) (a : Addr) (ccd : Value) (cl : List (Str × Addr)) (outer : List Env) (A₀ : Around) (h₀ : Heap) (L : Addr) (m : Str → Option Value) (s : Shared) (Q E : Value → Shared → Prop),
    Below A₀ base outer h₀ → Fr h₀ L s.heap m → (hd.heap_39 w.params).In h₀ → Top topProg LO mean mg mb h₀ → News h₀ L s.heap led →
    0 ≤ lo → lo < hi → hi ≤ (ns.length : Int) → hi ≤ lo + (k : Int) → dp + k + 4 < recursionLimit → un + 8 * k + 40 < cLine →
    (∀ (t' : Tok) (h' : Heap) (tk' : Nat), Fr h₀ L h' m → News h₀ L h' led → Q (.int (undig n ns k lo hi) t') { s with heap := h', toks := tk' }) →
    wpAny (model PySem.Challenge.rw_ia0009_01.row.prog w) (ktrTop dp un gd cn (fnScope nms ig ic mo) L a ccd cl outer) (call (.ref f) [.int lo t1, .int hi t2]) Q E s
theorem InnerBt.use {w : World} {mean : ExcName → Option Value} {mg mb : Str → Option Value} {base : Heap} {led : List (Addr × Obj)} {f : Addr} {n : Int} {ns : List Int} {k : Nat} (I : InnerBt w mean mg mb base led f n ns k)
    {lo hi : Int} {t1 t2 : Tok} {dp un : Nat} {gd : Option (List Code)} {cn : Str} {nms : List (Str × NameKind)} {ig ic : Bool} {mo : List (Str × Const)} {a : Addr} {ccd : Value} {cl : List (Str × Addr)} {outer : List Env} {A₀ : Around} {h₀ : Heap} {L : Addr} {m : Str → Option Value} {s : Shared} {Q E : Value → Shared → Prop}
    (B : Below A₀ base outer h₀) (F : Fr h₀ L s.heap m) (X : (hd.heap_39 w.params).In h₀) (T : Top topProg LO mean mg mb h₀) (N : News h₀ L s.heap led)
    (b3 : 0 ≤ lo) (b4 : lo < hi) (b5 : hi ≤ (ns.length : Int)) (b7 : hi ≤ lo + (k : Int)) (b8 : dp + k + 4 < recursionLimit) (b9 : un + 8 * k + 40 < cLine)
    (ret : ∀ (t' : Tok) (h' : Heap) (tk' : Nat), Fr h₀ L h' m → News h₀ L h' led → Q (.int (undig n ns k lo hi) t') { s with heap := h', toks := tk' }) :
    wpAny (model PySem.Challenge.rw_ia0009_01.row.prog w) (ktrTop dp un gd cn (fnScope nms ig ic mo) L a ccd cl outer) (call (.ref f) [.int lo t1, .int hi t2]) Q E s :=
  I lo hi t1 t2 dp un gd cn nms ig ic mo a ccd cl outer A₀ h₀ L m s Q E B F X T N b3 b4 b5 b7 b8 b9 ret
theorem InnerBt.all {w : World} {mean : ExcName → Option Value} {mg mb : Str → Option Value} {base : Heap} {led : List (Addr × Obj)} {f : Addr} {n : Int} {ns : List Int}
    (step : ∀ k, InnerBt w mean mg mb base led f n ns k → InnerBt w mean mg mb base led f n ns (k + 1)) : ∀ k, InnerBt w mean mg mb base led f n ns k := by
  intro k
  induction k with
  | zero =>
    unfold InnerBt
    intros
    omega
  | succ k ih => exact step k ih
theorem use_innerB {w : World} {mean : ExcName → Option Value} {mg mb : Str → Option Value} {base g : Heap} {L : Addr} {h : Heap} {f : Addr} {of : Obj} {tl : List (Addr × Obj)} {n : Int} {ns : List Int} {P : Prop}
    (_ : News g L h ((f, of) :: tl))
    (step : ∀ k, InnerBt w mean mg mb base ((f, of) :: tl) f n ns k → InnerBt w mean mg mb base ((f, of) :: tl) f n ns (k + 1))
    (next : (∀ k, InnerBt w mean mg mb base ((f, of) :: tl) f n ns k) → P) : P := next (InnerBt.all step)
end Mine

namespace Mine
open PySem.Calls PySem.Spec
abbrev bits (b : Int) : Int := (Builtin.Int.intBits b : Int)
def dstep (b n : Int) (p : Int × List Int) (d : Int) : Int × List Int := ((p.1 * 2 ^ n.toNat + d).fmod b, p.2 ++ [(p.1 * 2 ^ n.toNat + d).fdiv b])
def dfold (a b : Int) (i : Nat) : Int × List Int := ((digs a (bits b)).reverse.take i).foldl (dstep b (bits b)) (0, [])
/-- all that the walk of _divmod_pos asks, at one pair -/
def okPair (a b : Int) : Bool :=
  let n := bits b
  let ds := digs a n
  decide (1 ≤ n ∧ n ≤ 4 ∧ 1 ≤ (bits a + n - 1).fdiv n ∧ (bits a + n - 1).fdiv n ≤ 6 ∧ 1 ≤ ds.length ∧ ds.length ≤ 6) &&
  ((List.range ds.length).all fun i =>
    let p := dfold a b i
    let d := ds.reverse.getD i 0
    decide (0 ≤ p.1 ∧ p.1 < 16 ∧ 0 ≤ d ∧ d < 16 ∧ bits (p.1 * 2 ^ n.toNat + d) ≤ 12 ∧ p.2.length = i)) &&
  (let p := dfold a b ds.length
   decide (p.1 = a.fmod b ∧ undig n p.2.reverse 6 0 p.2.reverse.length = a.fdiv b ∧ p.2.length = ds.length) && p.2.reverse.all fun v => decide (0 ≤ v ∧ v < 2 ^ n.toNat))
theorem okPair_all : ∀ a < 32, ∀ b < 16, 0 < a → 0 < b → okPair (a : Nat) (b : Nat) = true := by decide +kernel
structure OkPair (a b : Int) : Prop where
  n1 : 1 ≤ bits b
  n4 : bits b ≤ 4
  d1 : 1 ≤ (bits a + bits b - 1).fdiv (bits b)
  d6 : (bits a + bits b - 1).fdiv (bits b) ≤ 6
  l1 : 1 ≤ (digs a (bits b)).length
  l6 : (digs a (bits b)).length ≤ 6
  turn : ∀ i d, (digs a (bits b)).reverse[i]? = some d → 0 ≤ (dfold a b i).1 ∧ (dfold a b i).1 < 16 ∧ 0 ≤ d ∧ d < 16 ∧ bits ((dfold a b i).1 * 2 ^ (bits b).toNat + d) ≤ 12 ∧ (dfold a b i).2.length = i
  rem : (dfold a b (digs a (bits b)).length).1 = a.fmod b
  quo : undig (bits b) (dfold a b (digs a (bits b)).length).2.reverse 6 0 ((dfold a b (digs a (bits b)).length).2.reverse.length : Int) = a.fdiv b
  len : (dfold a b (digs a (bits b)).length).2.length = (digs a (bits b)).length
  vals : ∀ v ∈ (dfold a b (digs a (bits b)).length).2.reverse, 0 ≤ v ∧ v < 2 ^ (bits b).toNat
theorem okPair_of {a b : Int} (h1 : 0 < a) (h2 : a < 32) (h3 : 0 < b) (h4 : b < 16) : OkPair a b := by
  obtain ⟨a, rfl⟩ := Int.eq_ofNat_of_zero_le (Int.le_of_lt h1)
  obtain ⟨b, rfl⟩ := Int.eq_ofNat_of_zero_le (Int.le_of_lt h3)
  have h := okPair_all a (by omega) b (by omega) (by omega) (by omega)
  unfold okPair at h
  simp only [Bool.and_eq_true, decide_eq_true_eq, List.all_eq_true, List.mem_range] at h
  obtain ⟨⟨⟨e1, e2, e3, e4, e5, e6⟩, e7⟩, ⟨e8, e9, e10⟩, e11⟩ := h
  refine ⟨e1, e2, e3, e4, e5, e6, fun i d hd => ?_, e8, e9, e10, fun v hv => e11 v hv⟩
  have hi : i < (digs (a : Nat) (bits (b : Nat))).length := by
    have := (List.getElem?_eq_some_iff.mp hd).1
    rwa [List.length_reverse] at this
  have h := e7 i hi
  rw [List.getD_eq_getElem?_getD, hd] at h
  exact h
theorem dfold_succ {a b : Int} {i : Nat} {d : Int} (h : (digs a (bits b)).reverse[i]? = some d) : dfold a b (i + 1) = dstep b (bits b) (dfold a b i) d := by
  unfold dfold
  rw [List.take_add_one, h]
  simp
theorem shl_small {r d n : Int} (r0 : 0 ≤ r) (r1 : r < 16) (n4 : n ≤ 4) (d0 : 0 ≤ d) (d1 : d < 16) : 0 ≤ r * 2 ^ n.toNat + d ∧ r * 2 ^ n.toNat + d < 256 := by
  have e1 : n.toNat = 0 ∨ n.toNat = 1 ∨ n.toNat = 2 ∨ n.toNat = 3 ∨ n.toNat = 4 := by omega
  rcases e1 with e1 | e1 | e1 | e1 | e1 <;> rw [e1] <;> omega
end Mine

namespace Mine
open PySem.Calls PySem.Spec
section
variable {prog : Program} {w : World} {A : Around} {E : Value → Shared → Prop} {s : Shared} {env : Env} {h₀ : Heap} {body : List Stmt} {Q : Flow → Shared → Prop}
/-- the end of a turn of the loop over the reversed digits -/
def RevEnd (h₀ : Heap) (L I lq : Addr) (it : Obj) (tl : List (Addr × Obj)) (m₀ : Str → Option Value) (r : Int) (qs : List Int) (s₁ s₂ : Shared) : Prop :=
  ∃ h' tk m' us c t, s₂ = { s₁ with heap := h', toks := tk } ∧ Fr h₀ L h' m' ∧ News h₀ L h' ((I, it) :: (lq, listOf us.toArray c) :: tl) ∧ IntsAre us qs ∧ m' (Str.ofString "r") = some (.int r t) ∧
    ∀ z, z ≠ Str.ofString "a_digit" → z ≠ Str.ofString "r" → z ≠ Str.ofString "q_digit" → m' z = m₀ z
theorem divmod_K {A : Around} {E : Value → Shared → Prop} {s : Shared} {L : Addr} {m : Str → Option Value} {news : List (Addr × Obj)} {a b : Int} {t u : Tok} {Q : Value → Shared → Prop} (F : Fr h₀ L s.heap m) (N : News h₀ L s.heap news) (hb : b ≠ 0) (hp : Builtin.divisionGoesByPylong a b = false)
    (h : ∀ D t₁ t₂ h' tk, Fr h₀ L h' m → News h₀ L h' ((D, { cls := .type "tuple", data := .seq #[.int (a.fdiv b) t₁, .int (a.fmod b) t₂] }) :: news) → (∀ p ∈ news, p.1 < D) → Q (.ref D) { s with heap := h', toks := tk }) :
    wpAny (model prog w) A (call (.builtin "divmod") [.int a t, .int b u]) Q E s :=
  divmod_N F N hb (fun h' F' N' => h _ _ _ h' _ F' N' fun p hp => Heap.lt_size (N p hp).1) (Or.inl hp)
theorem reverse_K {A : Around} {E : Value → Shared → Prop} {s : Shared} {L D : Addr} {m : Str → Option Value} {news news' : List (Addr × Obj)} {us : List Value} {n : Nat} {Q : Value → Shared → Prop} (F : Fr h₀ L s.heap m) (N : News h₀ L s.heap news) (U : Upd D (listOf us.toArray n) (listOf us.reverse.toArray n) news news') (hz : us.length ≤ 64)
    (h : ∀ h', Fr h₀ L h' m → News h₀ L h' news' → Q .none { s with heap := h' }) : wpAny (model prog w) A (call (.builtin "list.reverse") [.ref D]) Q E s :=
  kl_reverse F N (by simp) U (by rw [sizeLine_eq]; simp; omega) h
def RevPost (P : Shared → Prop) (Q : Flow → Shared → Prop) (f : Flow) (s₂ : Shared) : Prop := match f with
  | .ret v => Q (.ret v) s₂
  | .brk => Q .next s₂
  | _ => P s₂
theorem rev_map {m₁ m₀ : Str → Option Value} {v : Value} {r : Int} {t : Tok} (h1 : m₁ (Str.ofString "r") = some (.int r t)) (h2 : ∀ z, z ≠ Str.ofString "a_digit" → z ≠ Str.ofString "r" → z ≠ Str.ofString "q_digit" → m₁ z = m₀ z) :
    (fun y => if y = Str.ofString "a_digit" then some v else m₁ y) = fun y => if y = Str.ofString "a_digit" then some v else if y = Str.ofString "r" then some (.int r t) else if y = Str.ofString "q_digit" then m₁ y else m₀ y := by
  funext y
  by_cases e1 : y = Str.ofString "a_digit"
  · simp [e1]
  · by_cases e2 : y = Str.ofString "r"
    · subst e2; simp only [if_neg e1, if_true]; exact h1
    · by_cases e3 : y = Str.ofString "q_digit"
      · subst e3; simp only [if_neg e1, if_neg e2, if_true]
      · simp only [if_neg e1, if_neg e2, if_neg e3]; exact h2 y e1 e2 e3
theorem rev_map0 {m₁ m₀ : Str → Option Value} {r : Int} {t : Tok} (h1 : m₁ (Str.ofString "r") = some (.int r t)) (h2 : ∀ z, z ≠ Str.ofString "a_digit" → z ≠ Str.ofString "r" → z ≠ Str.ofString "q_digit" → m₁ z = m₀ z) :
    m₁ = fun y => if y = Str.ofString "a_digit" then m₁ y else if y = Str.ofString "r" then some (.int r t) else if y = Str.ofString "q_digit" then m₁ y else m₀ y := by
  funext y
  by_cases e1 : y = Str.ofString "a_digit"
  · simp [e1]
  · by_cases e2 : y = Str.ofString "r"
    · subst e2; simp only [if_neg e1, if_true]; exact h1
    · by_cases e3 : y = Str.ofString "q_digit"
      · subst e3; simp only [if_neg e1, if_neg e2, if_true]
      · simp only [if_neg e1, if_neg e2, if_neg e3]; exact h2 y e1 e2 e3
theorem rev_loop {I ax lq : Addr} {ws us₀ : List Value} {ds : List Int} {m₀ : Str → Option Value} {tl : List (Addr × Obj)} {c c₀ : Nat} {t₀ : Tok} (rr : Nat → Int) (qs : Nat → List Int)
    (hh : A.handled = none) (F : Fr h₀ env.locals s.heap m₀) (N : News h₀ env.locals s.heap ((I, revObj ax ((ws.length : Int) - 1)) :: (lq, listOf us₀.toArray c₀) :: (ax, listOf ws.toArray c) :: tl))
    (hI : ∀ p ∈ ((ax, listOf ws.toArray c) :: tl), p.1 ≠ I) (hlq : lq ≠ I) (hws : IntsAre ws ds) (hus : IntsAre us₀ (qs 0)) (hr : m₀ (Str.ofString "r") = some (.int (rr 0) t₀))
    (turn : ∀ (i : Nat) (d : Int) (t tr : Tok) (us : List Value) (cu : Nat) (m₁ : Str → Option Value) (it : Obj) (h : Heap) (tk : Nat), ds.reverse[i]? = some d → IntsAre us (qs i) → it.cls = .type "list_reverseiterator" →
      Fr h₀ env.locals h (fun y => if y = Str.ofString "a_digit" then some (.int d t) else if y = Str.ofString "r" then some (.int (rr i) tr) else if y = Str.ofString "q_digit" then m₁ y else m₀ y) →
      News h₀ env.locals h ((I, it) :: (lq, listOf us.toArray cu) :: (ax, listOf ws.toArray c) :: tl) →
      wpAny (model prog w) A (execs body env) (RevPost (RevEnd h₀ env.locals I lq it ((ax, listOf ws.toArray c) :: tl) m₀ (rr (i + 1)) (qs (i + 1)) { s with heap := h, toks := tk }) Q) E { s with heap := h, toks := tk })
    (done : ∀ (us : List Value) (cu : Nat) (tr : Tok) (m₁ : Str → Option Value) (h : Heap) (tk : Nat), IntsAre us (qs ds.length) → Fr h₀ env.locals h (fun y => if y = Str.ofString "a_digit" then m₁ y else if y = Str.ofString "r" then some (.int (rr ds.length) tr) else if y = Str.ofString "q_digit" then m₁ y else m₀ y) →
      News h₀ env.locals h ((lq, listOf us.toArray cu) :: (ax, listOf ws.toArray c) :: tl) → Q .next { s with heap := h, toks := tk }) :
    wpAny (model prog w) A (pyIter (.ref I)) (fun it s₂ => LoopAtV prog w A h₀ env (Str.ofString "a_digit") body Q E it s₂) E s := by
  have hoff : OffI I (revObj ax ((ws.length : Int) - 1)) ((lq, listOf us₀.toArray c₀) :: (ax, listOf ws.toArray c) :: tl) := by
    refine ⟨.inl hlq, ?_⟩
    have : ∀ l : List (Addr × Obj), (∀ p ∈ l, p.1 ≠ I) → OffI I (revObj ax ((ws.length : Int) - 1)) l := by
      intro l
      induction l with
      | nil => intro _; trivial
      | cons p r ih => intro h; exact ⟨.inl (h p (.head _)), ih fun q hq => h q (.tail _ hq)⟩
    exact this _ hI
  refine iter_revUnr (lo := listOf ws.toArray c) (vs := ws) (n := c) hh F N hoff (.tail _ (.head _)) rfl rfl ?_
  have hlen : ws.length = ds.length := hws.length
  have key : ∀ (r : List Value) (i : Nat), r = ws.reverse.drop i → i ≤ ds.length → ∀ m₁ us cu, IntsAre us (qs i) → (∃ t, m₁ (Str.ofString "r") = some (.int (rr i) t)) → (∀ z, z ≠ Str.ofString "a_digit" → z ≠ Str.ofString "r" → z ≠ Str.ofString "q_digit" → m₁ z = m₀ z) →
      RevRest prog w A E h₀ env (Str.ofString "a_digit") body Q s I (ax, listOf ws.toArray c) r m₁ ((lq, listOf us.toArray cu) :: (ax, listOf ws.toArray c) :: tl) := by
    intro r
    induction r with
    | nil =>
      intro i hr hi m₁ us cu hI' ⟨t, h1⟩ h2
      have e : i = ds.length := by
        have := congrArg List.length hr
        rw [List.length_drop, List.length_reverse, List.length_nil] at this
        omega
      subst e
      refine RevRest.zero fun h tk F' N' => ?_
      rw [rev_map0 h1 h2] at F'
      exact done us cu t m₁ h tk hI' F' N'
    | cons v r ih =>
      intro i hr hi m₁ us cu hI' ⟨t, h1⟩ h2
      have hlt : i < ws.reverse.length := by
        have := congrArg List.length hr
        rw [List.length_drop, List.length_cons] at this
        omega
      have hv : ws.reverse[i]? = some v := by
        have := congrArg (fun l => l[0]?) hr
        simpa using this.symm
      have hr' : r = ws.reverse.drop (i + 1) := by
        have := congrArg List.tail hr
        rwa [List.tail_cons, List.tail_drop] at this
      have hlt' : i < ds.length := by rwa [List.length_reverse, hlen] at hlt
      have hd : ds.reverse[i]? = some (ds.reverse[i]'(by rw [List.length_reverse]; exact hlt')) := List.getElem?_eq_getElem _
      have hv2 : ∃ tv, v = .int (ds.reverse[i]'(by rw [List.length_reverse]; exact hlt')) tv := by
        have hj : ds.length - 1 - i < ds.length := by omega
        have e1 : ws[ds.length - 1 - i]? = some v := by
          rw [List.getElem?_reverse (by rw [hlen]; exact hlt')] at hv
          rwa [hlen] at hv
        obtain ⟨tv, e2⟩ := hws.get (ds.length - 1 - i) (ds[ds.length - 1 - i]'hj) (List.getElem?_eq_getElem hj)
        rw [e1] at e2
        refine ⟨tv, ?_⟩
        rw [Option.some.inj e2, List.getElem_reverse]
      obtain ⟨tv, rfl⟩ := hv2
      refine RevRest.succ fun it h tk hit F' N' => ?_
      rw [rev_map h1 h2] at F'
      refine wpAny_mono (turn i _ tv t us cu m₁ it h tk hd hI' hit F' N') (fun f s₂ p => ?_) fun _ _ e => e
      have fin : RevEnd h₀ env.locals I lq it ((ax, listOf ws.toArray c) :: tl) m₀ (rr (i + 1)) (qs (i + 1)) { s with heap := h, toks := tk } s₂ →
          UnrEnd h₀ env.locals { s with heap := h, toks := tk } I it (fun m' n' => (ax, listOf ws.toArray c) ∈ n' ∧ RevRest prog w A E h₀ env (Str.ofString "a_digit") body Q s I (ax, listOf ws.toArray c) r m' n') s₂ := by
        rintro ⟨h', tk', m', us', c', t', e, F₁, N₁, i₁, r₁, k₁⟩
        refine ⟨h', tk', m', (lq, listOf us'.toArray c') :: (ax, listOf ws.toArray c) :: tl, e, F₁, N₁, ?_, .tail _ (.head _), ?_⟩
        · intro p hp
          rcases List.mem_cons.mp hp with rfl | hp
          · exact hlq
          · exact hI p hp
        · exact ih (i + 1) hr' (by omega) m' us' c' i₁ ⟨t', r₁⟩ k₁
      cases f with
      | ret v => exact p
      | brk => exact p
      | next => exact fin p
      | cont => exact fin p
  exact key ws.reverse 0 rfl (Nat.zero_le _) m₀ us₀ c₀ hus ⟨t₀, hr⟩ fun _ _ _ _ => rfl
end
theorem ints_rev {vs : List Value} {ns : List Int} (h : IntsAre vs ns) : IntsAre vs.reverse ns.reverse := by
  induction h with
  | nil => exact .nil
  | cons n t h ih => rw [List.reverse_cons, List.reverse_cons]; exact IntsAre.append ih (.cons _ _ .nil)
theorem off_of {news a b : List (Addr × Obj)} (h : Off (a ++ news) b) : Off a b ∧ Off news b := ⟨fun p hp => h p (List.mem_append_left _ hp), fun p hp => h p (List.mem_append_right _ hp)⟩
theorem off_symm {a b : List (Addr × Obj)} (h : Off a b) : Off b a := fun p hp q hq e => h q hq p hp e.symm
theorem off_cons {p : Addr × Obj} {a b : List (Addr × Obj)} (h1 : ∀ q ∈ b, p.1 ≠ q.1) (h : Off a b) : Off (p :: a) b := by
  intro x hx q hq
  rcases List.mem_cons.mp hx with rfl | hx
  · exact h1 q hq
  · exact h x hx q hq
theorem off_app {a b c : List (Addr × Obj)} (h1 : Off a c) (h2 : Off b c) : Off (a ++ b) c := by
  intro x hx q hq
  rcases List.mem_append.mp hx with hx | hx
  · exact h1 x hx q hq
  · exact h2 x hx q hq
theorem ne_of_lt {d : Addr} {l : List (Addr × Obj)} (h : AllLt d l) : ∀ q ∈ l, d ≠ q.1 := fun q hq => Nat.ne_of_gt (kst_ltOf h q hq)
theorem allLt_app {d : Addr} {a b : List (Addr × Obj)} (h : AllLt d (a ++ b)) : AllLt d a ∧ AllLt d b := ⟨allLt_of fun p hp => kst_ltOf h p (List.mem_append_left _ hp), allLt_of fun p hp => kst_ltOf h p (List.mem_append_right _ hp)⟩
theorem allLt_join {d : Addr} {a b : List (Addr × Obj)} (h : AllLt d a) (h2 : AllLt d b) : AllLt d (a ++ b) := allLt_of fun p hp => (List.mem_append.mp hp).elim (kst_ltOf h p) (kst_ltOf h2 p)
theorem allLt_sub {d : Addr} {a b : List (Addr × Obj)} (h : AllLt d b) (hs : ∀ p ∈ a, p ∈ b) : AllLt d a := allLt_of fun p hp => kst_ltOf h p (hs p hp)
abbrev tup2 (x y : Int) (t1 t2 : Tok) : Obj := { cls := .type "tuple", data := .seq #[.int x t1, .int y t2] }
end Mine

namespace Mine
open PySem.Calls PySem.Spec
local macro_rules | `(tactic| k_room) => `(tactic| ktr_room)
local macro_rules | `(tactic| k_all) => `(tactic| first | assumption | (intro p9 h9; have q9 := @kst_ltOf; grind))
local macro_rules | `(tactic| walk_at "call ref") => `(tactic| ((with_reducible show wpAny _ _ (call (Value.ref _) [Value.int _ _, Value.int _ _, Value.int _ _]) _ _ _); (first
  | (k_dflt (refine' InnerAt.use ?I ?B ?F ?X ?T ?N ?hl ?hi ?b1 ?b2 ?b3 ?b4 ?b5 ?b6 ?b7 ?b8 ?b9 ?_; (case I => assumption); (case B => k_asm); (case F => k_asm); (case X => k_asm); (case T => k_asm); (case N => k_asm); (case hi => assumption); (case hl => first | exact fun _ h => h | kst_inAny); (case b1 => first | assumption | omega); (case b2 => first | assumption | omega); (case b3 => omega); (case b4 => omega); (case b5 => ((try simp only [digI_length]); omega)); (case b6 => ((try simp only [digI_length]); omega)); (case b7 => omega); (case b8 => ktr_room); (case b9 => ktr_units)); intro h' tk' ws' c' F' N' I'; (try dsimp only))
  | (with_reducible refine Hold.out ?_))))
theorem i2d_spec (w : World) (mg mb : Str → Option Value) (mean : ExcName → Option Value) (dp un : Nat) (gd : Option (List Code)) (cn : Str) (nms : List (Str × NameKind)) (ig ic : Bool) (mo : List (Str × Const)) (fa : Addr) (ccd : Value) (cl : List (Str × Addr)) (outer : List Env) (A₀ : Around) (base h₀ : Heap) (L : Addr) (m : Str → Option Value) (s : Shared) (Q E : Value → Shared → Prop) (t u : Tok)
  (news : List (Addr × Obj)) (st : Option (Addr × Obj)) (a n : Int) (h1 : 0 < a) (h2 : a < 64) (h3 : 1 ≤ n) (h4 : n ≤ 4) (h5 : 1 ≤ (↑(Builtin.Int.intBits a) + n - 1).fdiv n) (h6 : (↑(Builtin.Int.intBits a) + n - 1).fdiv n ≤ 6)
  (hst : tbOk q30 st) (hoff : Off news (tbL 30 32 4 st)) (B : Below A₀ base outer h₀) (F : Fr h₀ L s.heap m) (X : (hd.heap_39 w.params).In h₀) (N : News h₀ L s.heap (tbL 30 32 4 st ++ news)) (T : Top topProg LO mean mg mb h₀) (C2 : CodeHd base 34 30) (hdp : dp + 50 < recursionLimit) (hu : un + 400 < cLine)
  (ret : ∀ (D : Addr) (ws : List Value) (c : Nat) (q : Addr × Obj) (h' : Heap) (tk' : Nat), Fr h₀ L h' m → News h₀ L h' ((D, listOf ws.toArray c) :: (tbL 30 32 4 (some q) ++ news)) → tbOk q30 (some q) → Off ((D, listOf ws.toArray c) :: news) (tbL 30 32 4 (some q)) → IntsAre ws (digs a n) → AllLt D news → Q (.ref D) { s with heap := h', toks := tk' }) :
  wpAny (model PySem.Challenge.rw_ia0009_01.row.prog w) (ktrTop dp un gd cn (fnScope nms ig ic mo) L fa ccd cl outer) (call (.ref 35) [.int a t, .int n u]) Q E s := by
  w_top off
  revert X
  k_fill
  intro X
  have hn30 : ∀ p ∈ news, p.1 ≠ 30 := off_tab hoff
  rcases st with _ | ⟨c0, oc0⟩
  all_goals (
    (try (obtain ⟨vs0, t0, hst1, hst2⟩ := hst; have hnc : ∀ p ∈ news, p.1 ≠ c0 := fun p hp => hoff p hp (c0, oc0) (by simp [tbL])))
    simp only [tbL, List.cons_append, List.nil_append] at N
    k_steps
    all_goals (try (exfalso; omega))
    unfold Hold
    rename News _ _ _ _ => N9
    (first | refine use_inner1 (n := n) (w := w) (mean := mean) (mg := mg) (mb := mb) (base := base) N9 rfl ?_ ?_ | refine use_inner (n := n) (w := w) (mean := mean) (mg := mg) (mb := mb) (base := base) N9 rfl ?_ ?_)
    · intro k IH
      unfold InnerAt
      clear N9 ret
      intro x lo hi t1 t2 t3 ws ns c dp un gd cn nms ig ic mo a ccd cl outer A₀ h₀ L m s Q E B F X T N I b1 b2 b3 b4 b5 b6 b7 b8 b9 ret
      have hk6 : hi ≤ lo + 6 := by omega
      have ⟨hm0, hm1, hm2⟩ := mid_facts b4
      have ⟨hs0, hs1⟩ := sh_small b4 hk6 h3 h4
      have ⟨hx1, hx2⟩ := xor_low' (s := (((lo + hi).fdiv (2 ^ Int.toNat 1) - lo) * n).toNat) b1 b2 (by omega)
      have ⟨hu1, hu2⟩ := fdiv_low (s := (((lo + hi).fdiv (2 ^ Int.toNat 1) - lo) * n).toNat) b1 b2
      refine wpAny_call ?_
      k_dflt kn_enter
      k_steps
      all_goals (refine ret _ _ _ _ (by assumption) (by assumption) ?_; first | (rw [digI_one (by assumption)]; assumption) | (rw [digI_two (by assumption)]; assumption))
    · intro I
      have I6 := I 6
      clear I
      k_steps
      rename News h₀ L _ _ => N9
      refine' ret _ _ _ (_, _) _ _ (by assumption) (fin_news N9 ?g1 ?g2 ?g3 ?g4 ?g5) ?g6 (off_make ?g7 ?g8 ?g9 ?g10) ?g11 ?g12
      case g1 => k_mem
      case g2 => k_mem
      case g3 => rfl
      case g4 => k_mem
      case g5 => kst_inAny
      case g6 => exact ⟨_, _, by assumption, by assumption⟩
      case g7 => k_ne
      case g8 => k_ne
      case g9 => assumption
      case g10 => first | assumption | k_all
      case g11 => exact digs_of (by assumption) (by assumption)
      case g12 => grind)
end Mine

namespace Mine
open PySem.Calls PySem.Spec
local macro_rules | `(tactic| walk_at "none of these") => `(tactic| fail "never")
local macro_rules | `(tactic| k_room) => `(tactic| ktr_room)
local macro_rules | `(tactic| k_all) => `(tactic| first | assumption | (intro p9 h9; have q9 := @kst_ltOf; grind))
local macro_rules | `(tactic| walk_at "call ref") => `(tactic| ((with_reducible show wpAny _ _ (call (Value.ref _) [Value.int _ _, Value.int _ _]) _ _ _); (first
  | (k_dflt (refine' InnerBt.use ?I ?B ?F ?X ?T ?N ?b3 ?b4 ?b5 ?b7 ?b8 ?b9 ?_; (case I => assumption); (case B => k_asm); (case F => k_asm); (case X => k_asm); (case T => k_asm); (case N => k_asm); (case b3 => omega); (case b4 => omega); (case b5 => omega); (case b7 => omega); (case b8 => ktr_room); (case b9 => ktr_units)); intro t' h' tk' F' N'; (try dsimp only))
  | (with_reducible refine Hold.out ?_))))
theorem d2i_spec (w : World) (mg mb : Str → Option Value) (mean : ExcName → Option Value) (dp un : Nat) (gd : Option (List Code)) (cn : Str) (nms : List (Str × NameKind)) (ig ic : Bool) (mo : List (Str × Const)) (fa : Addr) (ccd : Value) (cl : List (Str × Addr)) (outer : List Env) (A₀ : Around) (base h₀ : Heap) (L : Addr) (m : Str → Option Value) (s : Shared) (Q E : Value → Shared → Prop) (u : Tok)
  (news : List (Addr × Obj)) (st : Option (Addr × Obj)) (Dq : Addr) (us : List Value) (cq : Nat) (ns : List Int) (n : Int) (h3 : 1 ≤ n) (h4 : n ≤ 4) (hI : IntsAre us ns) (h5 : 1 ≤ ns.length) (h6 : ns.length ≤ 6) (hv : ∀ v ∈ ns, 0 ≤ v ∧ v < 2 ^ n.toNat)
  (hst : tbOk q37 st) (hoff : Off ((Dq, listOf us.toArray cq) :: news) (tbL 37 47 4 st)) (B : Below A₀ base outer h₀) (F : Fr h₀ L s.heap m) (X : (hd.heap_39 w.params).In h₀) (N : News h₀ L s.heap ((Dq, listOf us.toArray cq) :: (tbL 37 47 4 st ++ news))) (T : Top topProg LO mean mg mb h₀) (C1 : CodeHd base 41 37) (hdp : dp + 50 < recursionLimit) (hu : un + 400 < cLine)
  (ret : ∀ (q : Addr × Obj) (t' : Tok) (h' : Heap) (tk' : Nat), Fr h₀ L h' m → News h₀ L h' ((Dq, listOf us.toArray cq) :: (tbL 37 47 4 (some q) ++ news)) → tbOk q37 (some q) → Off ((Dq, listOf us.toArray cq) :: news) (tbL 37 47 4 (some q)) → Q (.int (undig n ns 6 0 (ns.length : Int)) t') { s with heap := h', toks := tk' }) :
  wpAny (model PySem.Challenge.rw_ia0009_01.row.prog w) (ktrTop dp un gd cn (fnScope nms ig ic mo) L fa ccd cl outer) (call (.ref 42) [.ref Dq, .int n u]) Q E s := by
  w_top off
  revert X
  k_fill
  intro X
  have hnD : Dq ≠ 37 := off_tab hoff _ (.head _)
  have hn37 : ∀ p ∈ news, p.1 ≠ 37 := fun p hp => off_tab hoff p (.tail _ hp)
  rcases st with _ | ⟨c0, oc0⟩
  all_goals (
    (try (obtain ⟨vs0, t0, hst1, hst2⟩ := hst; have hnc : ∀ p ∈ news, p.1 ≠ c0 := fun p hp => hoff p (.tail _ hp) (c0, oc0) (by simp [tbL]); have hDc : Dq ≠ c0 := hoff _ (.head _) (c0, oc0) (by simp [tbL])))
    simp only [tbL, List.cons_append, List.nil_append] at N
    k_steps
    unfold Hold
    rename News _ _ _ _ => N9
    refine use_innerB (n := n) (ns := ns) (w := w) (mean := mean) (mg := mg) (mb := mb) (base := base) N9 ?_ ?_
    · intro k IH
      unfold InnerBt
      clear N9 ret
      intro lo hi t1 t2 dp un gd cn nms ig ic mo a ccd cl outer A₀ h₀ L m s Q E B F X T N b3 b4 b5 b7 b8 b9 ret
      have hk6 : hi ≤ lo + 6 := by omega
      have ⟨hm0, hm1, hm2⟩ := mid_facts b4
      have ⟨hs0, hs1⟩ := sh_small b4 hk6 h3 h4
      have ⟨hu1, hu2⟩ := undig_small h3 h4 hv k hm1 (by omega)
      have ret1 : lo + 1 = hi → ∀ (t' : Tok) (h' : Heap) (tk' : Nat), Fr h₀ L h' m → _ → Q (.int (ns.getD lo.toNat 0) t') { s with heap := h', toks := tk' } := fun hc t' h' tk' F' N' => by
        have z := ret t' h' tk' F' N'
        rwa [undig_one hc] at z
      have ret2 : ¬ lo + 1 = hi → ∀ (t' : Tok) (h' : Heap) (tk' : Nat), Fr h₀ L h' m → _ → Q (.int _ t') { s with heap := h', toks := tk' } := fun hc t' h' tk' F' N' => by
        have z := ret t' h' tk' F' N'
        rw [undig_two hc] at z
        exact z
      clear ret
      refine wpAny_call ?_
      k_dflt kn_enter
      k_steps
      · exact ret1 (by assumption) _ _ _ (by assumption) (by assumption)
      · exact ret2 (by assumption) _ _ _ (by assumption) (by assumption)
    · intro I
      have I6 := I 6
      clear I
      k_steps
      rename News h₀ L _ _ => N9
      refine' ret (_, _) _ _ _ (by assumption) (fin_news N9 ?g1 ?g2 ?g3 ?g4 ?g5) ?g6 (off_make ?g7 ?g8 ?g9 ?g10)
      case g1 => k_mem
      case g2 => k_mem
      case g3 => rfl
      case g4 => k_mem
      case g5 => kst_inAny
      case g6 => exact ⟨_, _, by assumption, by assumption⟩
      case g7 => assumption
      case g8 => first | assumption | k_ne
      case g9 => assumption
      case g10 => first | assumption | k_all)
end Mine

namespace Mine
open PySem.Calls PySem.Spec
local macro_rules | `(tactic| k_room) => `(tactic| ktr_room)
local macro_rules | `(tactic| k_all) => `(tactic| first | assumption | (intro p9 h9; have q9 := @kst_ltOf; grind))
local macro_rules | `(tactic| walk_at "call ref") => `(tactic| (first
  | (with_reducible show wpAny _ _ (call (Value.ref 35) _) _ _ _)
  | (with_reducible show wpAny _ _ (call (Value.ref 42) _) _ _ _)); (with_reducible refine Hold.out ?_))
local macro_rules | `(tactic| walk_at "call builtin:divmod") => `(tactic| ((with_reducible show wpAny _ _ (call (Value.builtin _) [Value.int _ _, Value.int _ _]) _ _ _); k_dflt (refine' divmod_K ?F ?N ?b ?p ?_; (case F => k_asm); (case N => k_asm); (case b => omega); (case p => exact PyProof.noPylong_small (by omega))); intro D' t1' t2' h' tk' F' N' l1; (try k_lt l1)))
local macro_rules | `(tactic| walk_at "call builtin:list.reverse") => `(tactic| ((with_reducible show wpAny _ _ (call (Value.builtin _) [Value.ref _]) _ _ _); k_dflt (refine' reverse_K ?F ?N ?U ?z ?_; (case F => k_asm); (case N => k_asm); (case U => k_upd); (case z => omega)); intro h' F' N'; (try dsimp only)))
theorem dp_spec (w : World) (mg mb : Str → Option Value) (mean : ExcName → Option Value) (dp un : Nat) (gd : Option (List Code)) (cn : Str) (nms : List (Str × NameKind)) (ig ic : Bool) (mo : List (Str × Const)) (fa : Addr) (ccd : Value) (cl : List (Str × Addr)) (outer : List Env) (A₀ : Around) (base h₀ : Heap) (L : Addr) (m : Str → Option Value) (s : Shared) (Q E : Value → Shared → Prop) (t u : Tok)
  (news : List (Addr × Obj)) (st st2 : Option (Addr × Obj)) (a b : Int)
  (hst : tbOk q30 st) (hst2 : tbOk q37 st2) (B : Below A₀ base outer h₀) (F : Fr h₀ L s.heap m) (X : (hd.heap_39 w.params).In h₀) (N : News h₀ L s.heap (tbL 30 32 4 st ++ (tbL 37 47 4 st2 ++ news))) (T : Top topProg LO mean mg mb h₀) (C1 : CodeHd base 41 37) (C2 : CodeHd base 34 30) (hdp : dp + 60 < recursionLimit) (hu : un + 500 < cLine)
  (hoff : Off (tbL 37 47 4 st2 ++ news) (tbL 30 32 4 st)) (hoff2 : Off news (tbL 37 47 4 st2)) (ha : 0 < a) (ha' : a < 32) (hb : 0 < b) (hb' : b < 16)
  (ret : ∀ (D : Addr) (t1 t2 : Tok) (q q2 : Addr × Obj) (h' : Heap) (tk' : Nat), Fr h₀ L h' m → News h₀ L h' ((D, tup2 (a.fdiv b) (a.fmod b) t1 t2) :: (tbL 30 32 4 (some q) ++ (tbL 37 47 4 (some q2) ++ news))) → tbOk q30 (some q) → tbOk q37 (some q2) → Off (tbL 37 47 4 (some q2) ++ news) (tbL 30 32 4 (some q)) → Off news (tbL 37 47 4 (some q2)) → AllLt D (tbL 30 32 4 (some q) ++ (tbL 37 47 4 (some q2) ++ news)) → Q (.ref D) { s with heap := h', toks := tk' }) :
  wpAny (model PySem.Challenge.rw_ia0009_01.row.prog w) (ktrTop dp un gd cn (fnScope nms ig ic mo) L fa ccd cl outer) (call (.ref 49) [.int a t, .int b u]) Q E s := by
  w_top off
  revert X
  k_fill
  intro X
  k_steps
  unfold Hold
  have K := okPair_of ha ha' hb hb'
  k_dflt (refine' i2d_spec _ _ _ _ _ _ _ _ _ _ _ _ _ _ _ _ _ _ _ _ _ _ _ _ _ _ _ _ _ _ ha ?a2 K.n1 K.n4 K.d1 K.d6 hst hoff ?B ?F ?X ?N ?T C2 ?dp ?un ?_)
  case a2 => omega
  case B => k_asm
  case F => k_asm
  case X => k_asm
  case N => k_asm
  case T => k_asm
  case dp => ktr_room
  case un => ktr_units
  intro D ws c q h' tk' F' N' ok' off' I' lD
  clear hoff hst
  k_steps
  refine' rev_loop (rr := fun i => (dfold a b i).1) (qs := fun i => (dfold a b i).2) ?hh ?F ?N ?hI ?hlq ?hws ?hus ?hr ?turn ?done
  case hh => rfl
  case F => k_asm
  case N => k_asm
  case hI => k_all
  case hlq => k_ne
  case hws => exact I'
  case hus => exact .nil
  case hr => rfl
  case turn =>
    intro i d t tr us cu m₁ it h tk hd hus hit F' N'
    have ⟨r0, r1, d0, d1, rb, rl⟩ := K.turn i d hd
    have n1 := K.n1
    have n4 := K.n4
    have hi6 : i ≤ 6 := by
      have z := (List.getElem?_eq_some_iff.mp hd).1
      rw [List.length_reverse] at z
      exact Nat.le_trans (Nat.le_of_lt z) K.l6
    have hMk : KstMark := kstMark
    have ⟨p0, p1⟩ := shl_small r0 r1 n4 d0 d1
    have hul : us.length = i := by rw [hus.length]; exact rl
    rw [dfold_succ hd]
    unfold dstep
    dsimp only [bits] at *
    clear ret hd
    generalize (dfold a b i).1 = r at *
    generalize (dfold a b i).2 = qs at *
    k_steps
    rename News _ _ _ _ => N9
    simp only [List.push_toArray] at N9
    refine ⟨_, _, _, _, _, _, rfl, by assumption, fun p hp => N9 p (.tail _ hp), IntsAre.append hus (.cons _ _ .nil), by with_unfolding_all rfl, ?_⟩
    intro z z1 z2 z3
    simp only [if_neg z1, if_neg z2, if_neg z3]
  case done =>
    intro us cu tr m₁ h tk hus F' N'
    dsimp only
    have hMk : KstMark := kstMark
    have n1 := K.n1
    have n4 := K.n4
    have hul := hus.length
    rw [K.len] at hul
    have l1 := K.l1
    have l6 := K.l6
    have hrem := K.rem
    have hquo := K.quo
    have hvals := K.vals
    have hlen := K.len
    dsimp only [bits] at *
    rw [hrem] at F'
    generalize (dfold a b (digs a ↑(Builtin.Int.intBits b)).length).2 = qs at *
    k_steps
    unfold Hold
    rename News _ _ _ ((_, listOf (List.reverse _).toArray _) :: _) => N9
    obtain ⟨o1, o2⟩ := off_of (fun p hp => off' p (.tail _ hp))
    have oD : ∀ p ∈ tbL 30 32 4 (some q), D ≠ p.1 := off' _ (.head _)
    obtain ⟨a1, a2⟩ := allLt_app lD
    rename (@LT.lt Nat _ D _ ∧ AllLt _ _) => hA
    have a3 := (allLt_app (allLt_app hA.2).2).1
    k_dflt (refine' d2i_spec _ _ _ _ _ _ _ _ _ _ _ _ _ _ _ _ _ _ _ _ _ _ _ _ _ ((D, listOf ws.toArray c) :: (tbL 30 32 4 (some q) ++ news)) st2 _ us.reverse cu qs.reverse _ n1 n4 (ints_rev hus) ?l1 ?l6 hvals hst2 ?hoff ?B ?F ?X ?N ?T C1 ?dp ?un ?_)
    case l1 => rw [List.length_reverse]; omega
    case l6 => rw [List.length_reverse]; omega
    case hoff => exact off_cons (ne_of_lt a3) (off_cons (ne_of_lt a1) (off_app (off_symm o1) hoff2))
    case B => k_asm
    case F => k_asm
    case X => k_asm
    case N => exact fun p hp => N9 p (by simp only [List.mem_cons, List.mem_append] at hp ⊢; grind)
    case T => k_asm
    case dp => ktr_room
    case un => ktr_units
    intro q2 t2' h2' tk2' F' N' ok2' off2'
    k_steps
    rename News h₀ L _ _ => N8
    rename _ ∧ AllLt _ (tbL 37 47 4 (some q2) ++ _) => hT
    rw [hquo] at N8
    have o3 : Off (tbL 30 32 4 (some q)) (tbL 37 47 4 (some q2)) := fun p hp => off2' p (.tail _ (.tail _ (List.mem_append_left _ hp)))
    have o4 : Off news (tbL 37 47 4 (some q2)) := fun p hp => off2' p (.tail _ (.tail _ (List.mem_append_right _ hp)))
    exact ret _ _ _ q q2 _ _ (by assumption) (fun p hp => (List.mem_cons.mp hp).elim (fun e => e ▸ N8 _ (.head _)) fun hp => N8 p (by simp only [List.mem_cons, List.mem_append] at hp ⊢; grind)) ok' ok2' (off_app (off_symm o3) o2) o4 (allLt_sub hT.2 (fun p hp => by simp only [List.mem_cons, List.mem_append] at hp ⊢; grind))
end Mine

namespace Mine
open PySem.Calls PySem.Spec
local macro_rules | `(tactic| k_room) => `(tactic| ktr_room)
local macro_rules | `(tactic| k_all) => `(tactic| first | assumption | (intro p9 h9; have q9 := @kst_ltOf; grind))
local macro_rules | `(tactic| walk_at "call ref") => `(tactic| ((with_reducible show wpAny _ _ (call (Value.ref 49) _) _ _ _); (with_reducible refine Hold.out ?_)))
def Tab (tl : List (Addr × Obj)) : Prop := ∃ st st2, tl = tbL 30 32 4 st ++ tbL 37 47 4 st2 ∧ tbOk q30 st ∧ tbOk q37 st2 ∧ Off (tbL 37 47 4 st2) (tbL 30 32 4 st)
theorem off_right {n a b : List (Addr × Obj)} (h : Off n (a ++ b)) : Off n a ∧ Off n b := ⟨fun p hp q hq => h p hp q (List.mem_append_left _ hq), fun p hp q hq => h p hp q (List.mem_append_right _ hq)⟩
theorem off_join {n a b : List (Addr × Obj)} (h : Off n a) (h2 : Off n b) : Off n (a ++ b) := fun p hp q hq => (List.mem_append.mp hq).elim (h p hp q) (h2 p hp q)
theorem div_spec (w : World) (mg mb : Str → Option Value) (mean : ExcName → Option Value) (dp un : Nat) (gd : Option (List Code)) (cn : Str) (nms : List (Str × NameKind)) (ig ic : Bool) (mo : List (Str × Const)) (fa : Addr) (ccd : Value) (cl : List (Str × Addr)) (outer : List Env) (A₀ : Around) (base h₀ : Heap) (L : Addr) (m : Str → Option Value) (s : Shared) (Q E : Value → Shared → Prop) (t u : Tok)
  (led news tl : List (Addr × Obj)) (a b : Int) (ha : 0 < a) (ha' : a < 32) (hb : 0 < b) (hb' : b < 16)
  (hT : Tab tl) (hoff : Off news tl) (B : Below A₀ base outer h₀) (F : Fr h₀ L s.heap m) (X : (hd.heap_39 w.params).In h₀) (N : News h₀ L s.heap led) (hl : ∀ p ∈ news ++ tl, p ∈ led) (T : Top topProg LO mean mg mb h₀) (C1 : CodeHd base 41 37) (C2 : CodeHd base 34 30) (hdp : dp + 70 < recursionLimit) (hu : un + 600 < cLine)
  (ret : ∀ (D : Addr) (t1 t2 : Tok) (tl' : List (Addr × Obj)) (h' : Heap) (tk' : Nat), Fr h₀ L h' m → News h₀ L h' ((D, tup2 (a.fdiv b) (a.fmod b) t1 t2) :: (news ++ tl')) → Tab tl' → Off news tl' → AllLt D (news ++ tl') → Q (.ref D) { s with heap := h', toks := tk' }) :
  wpAny (model PySem.Challenge.rw_ia0009_01.row.prog w) (ktrTop dp un gd cn (fnScope nms ig ic mo) L fa ccd cl outer) (call (.ref 56) [.int a t, .int b u]) Q E s := by
  w_top off
  revert X
  k_fill
  intro X
  obtain ⟨st, st2, rfl, ok, ok2, hoo⟩ := hT
  obtain ⟨f1, f2⟩ := off_right hoff
  replace N : News h₀ L s.heap (tbL 30 32 4 st ++ (tbL 37 47 4 st2 ++ news)) := fun p hp => N p (hl p (by simp only [List.mem_append] at hp ⊢; grind))
  clear hl
  k_steps
  all_goals (try (exfalso; omega))
  unfold Hold
  k_dflt (refine' dp_spec _ _ _ _ _ _ _ _ _ _ _ _ _ _ _ _ _ _ _ _ _ _ _ _ _ _ news st st2 _ _ ok ok2 ?B ?F ?X ?N ?T C1 C2 ?dp ?un (off_app hoo f1) f2 ha ha' hb hb' ?_)
  case B => k_asm
  case F => k_asm
  case X => k_asm
  case N => k_asm
  case T => k_asm
  case dp => ktr_room
  case un => ktr_units
  intro D t1 t2 q q2 h' tk' F' N' ok' ok2' g1 g2 lD
  clear N
  obtain ⟨g3, g4⟩ := off_of g1
  k_steps
  rename News h₀ L _ _ => N8
  exact ret D t1 t2 (tbL 30 32 4 (some q) ++ tbL 37 47 4 (some q2)) _ _ (by assumption) (fun p hp => N8 p (by simp only [List.mem_cons, List.mem_append] at hp ⊢; grind)) ⟨_, _, rfl, ok', ok2', g3⟩ (off_join g4 g2) (allLt_sub lD (fun p hp => by simp only [List.mem_append] at hp ⊢; grind))
end Mine

namespace Mine
open PySem.Calls PySem.Spec
/-- what is carried and what divides after i turns -/
def cd (N W : Int) : Nat → Int × Int
  | 0 => (0, 1)
  | i + 1 =>
    let c := (W + (cd N W i).1).fdiv (cd N W i).2 * (cd N W i).2 - (cd N W i).1
    (c, (N - c * c).fdiv (cd N W i).2)
def prt (N W : Int) (i : Nat) : Int := (W + (cd N W i).1).fdiv (cd N W i).2
def trp (N W : Int) (i : Nat) : Int × Int × Int := (prt N W i, (cd N W (i + 1)).1, (cd N W (i + 1)).2)
def tabN (N W : Int) (k : Nat) : List (Int × Int × Int) := (List.range k).map (trp N W)
/-- the turns till it comes round -/
def per (N W : Int) : Nat := ((List.range 9).find? fun i => decide (1 ≤ i) && decide (prt N W i = 2 * W)).getD 0
def okNum (N W : Int) : Bool :=
  let k := per N W
  decide (1 ≤ k ∧ k ≤ 8 ∧ prt N W k = 2 * W ∧ 1 ≤ W ∧ W ≤ 6) &&
  (List.range (k + 1)).all fun i =>
    let p := cd N W i
    let q := cd N W (i + 1)
    decide (0 < W + p.1 ∧ W + p.1 < 32 ∧ 0 < p.2 ∧ p.2 < 16 ∧ 0 ≤ p.1 ∧ p.1 ≤ 6 ∧ 0 < N - q.1 * q.1 ∧ N - q.1 * q.1 < 32 ∧ (N - q.1 * q.1).fmod p.2 = 0 ∧ 0 ≤ q.1 ∧ q.1 ≤ 6 ∧ 0 ≤ prt N W i ∧ prt N W i ≤ 12) && (decide (i = k) || i == 0 || decide (prt N W i ≠ 2 * W))
def numOf (c : Int) : Int := 2 + c
def rootOf (n : Nat) : Nat := if n < 4 then 1 else if n < 9 then 2 else if n < 16 then 3 else if n < 25 then 4 else if n < 36 then 5 else 6
def fixN (n : Nat) : Nat := if rootOf n * rootOf n = n then n + 1 else n
theorem okNum_all : ∀ n < 41, 2 ≤ n → okNum (fixN n : Nat) (rootOf n : Nat) = true := by decide +kernel
end Mine

namespace Mine
open PySem.Calls PySem.Spec
structure OkTurn (N W : Int) (i : Nat) : Prop where
  a1 : 0 < W + (cd N W i).1
  a2 : W + (cd N W i).1 < 32
  b1 : 0 < (cd N W i).2
  b2 : (cd N W i).2 < 16
  c1 : 0 ≤ (cd N W i).1
  c2 : (cd N W i).1 ≤ 6
  d1 : 0 < N - (cd N W (i + 1)).1 * (cd N W (i + 1)).1
  d2 : N - (cd N W (i + 1)).1 * (cd N W (i + 1)).1 < 32
  r0 : (N - (cd N W (i + 1)).1 * (cd N W (i + 1)).1).fmod (cd N W i).2 = 0
  e1 : 0 ≤ (cd N W (i + 1)).1
  e2 : (cd N W (i + 1)).1 ≤ 6
  p1 : 0 ≤ prt N W i
  p2 : prt N W i ≤ 12
  st : i = per N W ∨ i = 0 ∨ prt N W i ≠ 2 * W
structure OkNum (N W : Int) : Prop where
  k1 : 1 ≤ per N W
  k8 : per N W ≤ 8
  last : prt N W (per N W) = 2 * W
  w1 : 1 ≤ W
  w6 : W ≤ 6
  turn : ∀ i ≤ per N W, OkTurn N W i
theorem okNum_of {N W : Int} (h : okNum N W = true) : OkNum N W := by
  unfold okNum at h
  simp only [Bool.and_eq_true, decide_eq_true_eq, List.all_eq_true, List.mem_range, Bool.or_eq_true, beq_iff_eq] at h
  obtain ⟨⟨h1, h2, h3, h4, h5⟩, h6⟩ := h
  refine ⟨h1, h2, h3, h4, h5, fun i hi => ?_⟩
  obtain ⟨⟨e1, e2, e3, e4, e5, e6, e7, e8, e9, e10, e11, e12, e13⟩, e14⟩ := h6 i (by omega)
  exact ⟨e1, e2, e3, e4, e5, e6, e7, e8, e9, e10, e11, e12, e13, or_assoc.mp e14⟩

theorem ne_all3 {d : Addr} {o : Obj} {tups news tl x : List (Addr × Obj)} (h1 : ∀ p ∈ tups, p.1 ≠ d) (h2 : ∀ p ∈ news, p.1 ≠ d) (h3 : Off ((d, o) :: x) tl) : ∀ p ∈ tups ++ (news ++ tl), p.1 ≠ d := by
  intro p hp
  rcases List.mem_append.mp hp with hp | hp
  · exact h1 p hp
  · rcases List.mem_append.mp hp with hp | hp
    · exact h2 p hp
    · exact fun e => h3 (d, o) (.head _) p hp e.symm
theorem size_push' {its : Array Value} {x : Value} {i : Nat} (h : its.size = i) : (its.push x).size = i + 1 := by rw [Array.size_push, h]
abbrev tup3 (x : Int × Int × Int) (t1 t2 t3 : Tok) : Obj := { cls := .type "tuple", data := .seq #[.int x.1 t1, .int x.2.1 t2, .int x.2.2 t3] }
/-- the list's items are tuples of the ledger -/
inductive Trip (led : List (Addr × Obj)) : List Value → List (Int × Int × Int) → Prop
  | nil : Trip led [] []
  | snoc {vs rs x a t1 t2 t3} : Trip led vs rs → (a, tup3 x t1 t2 t3) ∈ led → Trip led (vs ++ [.ref a]) (rs ++ [x])
theorem Trip.mono {led led' : List (Addr × Obj)} (h : ∀ p ∈ led, p ∈ led') {vs rs} (x : Trip led vs rs) : Trip led' vs rs := by
  induction x with
  | nil => exact .nil
  | snoc _ m ih => exact .snoc ih (h _ m)
theorem Trip.length {led : List (Addr × Obj)} {vs rs} (x : Trip led vs rs) : vs.length = rs.length := by
  induction x with
  | nil => rfl
  | snoc _ _ ih => simp [ih]
theorem tabN_succ (N W : Int) (k : Nat) : tabN N W (k + 1) = tabN N W k ++ [trp N W k] := by
  unfold tabN
  rw [List.range_succ, List.map_append]
  rfl
theorem tabN_length (N W : Int) (k : Nat) : (tabN N W k).length = k := by simp [tabN]

theorem news_skip {h₀ h : Heap} {L : Addr} {x y : Addr × Obj} {r : List (Addr × Obj)} (N : News h₀ L h (x :: y :: r)) : News h₀ L h (x :: r) := fun p hp => N p ((List.mem_cons.mp hp).elim (fun e => e ▸ .head _) fun h => .tail _ (.tail _ h))
theorem parts_next {h₀ h : Heap} {L Df D : Addr} {N W : Int} {i c : Nat} {us : List Value} {tups news tl : List (Addr × Obj)} {o : Obj} {t1 t2 t3 : Tok}
    (N9 : News h₀ L h ((D, tup3 (trp N W i) t1 t2 t3) :: (Df, listOf (us ++ [Value.ref D]).toArray c) :: (tups ++ (news ++ tl)))) (hTr : Trip tups us (tabN N W i)) (hO : Off ((Df, o) :: (tups ++ news)) tl) (hlt : @LT.lt Nat _ Df D) (hlt2 : AllLt D (tups ++ (news ++ tl))) (hD : ∀ p ∈ tups, p.1 ≠ Df) :
    News h₀ L h ((Df, listOf (us ++ [Value.ref D]).toArray c) :: (((D, tup3 (trp N W i) t1 t2 t3) :: tups) ++ (news ++ tl))) ∧ Trip ((D, tup3 (trp N W i) t1 t2 t3) :: tups) (us ++ [Value.ref D]) (tabN N W (i + 1)) ∧
      Off ((Df, listOf (us ++ [Value.ref D]).toArray c) :: (((D, tup3 (trp N W i) t1 t2 t3) :: tups) ++ news)) tl ∧ ∀ p ∈ (D, tup3 (trp N W i) t1 t2 t3) :: tups, p.1 ≠ Df := by
  refine ⟨fun p hp => ?_, ?_, ?_, ?_⟩
  · rcases List.mem_cons.mp hp with rfl | hp
    · exact N9 _ (.tail _ (.head _))
    · rcases List.mem_append.mp hp with hp | hp
      · rcases List.mem_cons.mp hp with rfl | hp
        · exact N9 _ (.head _)
        · exact N9 _ (.tail _ (.tail _ (List.mem_append_left _ hp)))
      · exact N9 _ (.tail _ (.tail _ (List.mem_append_right _ hp)))
  · rw [tabN_succ]
    exact .snoc (hTr.mono fun p hp => .tail _ hp) (.head _)
  · refine off_cons (hO (Df, o) (.head _)) (off_cons (ne_of_lt (allLt_app (allLt_app hlt2).2).2) fun p hp => hO p (.tail _ hp))
  · intro p hp
    rcases List.mem_cons.mp hp with rfl | hp
    · exact Nat.ne_of_gt hlt
    · exact hD p hp
section
variable {prog : Program} {w : World} {A : Around} {E : Value → Shared → Prop} {s : Shared} {env : Env} {h₀ : Heap} {L : Addr} {test : Expr} {body : List Stmt} {pos : Pos} {Q : Flow → Shared → Prop}
/-- the end of a turn of the loop of _law_parts -/
def PartsEnd (h₀ : Heap) (L Df : Addr) (news : List (Addr × Obj)) (m₀ : Str → Option Value) (N W : Int) (i : Nat) (s₁ s₂ : Shared) : Prop :=
  ∃ (h' : Heap) (tk : Nat) (m' : Str → Option Value) (us : List Value) (cnt : Nat) (tups tl : List (Addr × Obj)) (tc td : Tok), s₂ = { s₁ with heap := h', toks := tk } ∧ Fr h₀ L h' m' ∧ News h₀ L h' ((Df, listOf us.toArray cnt) :: (tups ++ (news ++ tl))) ∧
    i ≤ per N W ∧ Trip tups us (tabN N W i) ∧ Tab tl ∧ Off ((Df, listOf us.toArray cnt) :: (tups ++ news)) tl ∧ (∀ p ∈ tups, p.1 ≠ Df) ∧
    m' (Str.ofString "carried") = some (.int (cd N W i).1 tc) ∧ m' (Str.ofString "divides") = some (.int (cd N W i).2 td) ∧
    ∀ z, z ≠ Str.ofString "carried" → z ≠ Str.ofString "divides" → z ≠ Str.ofString "part" → z ≠ Str.ofString "rest" → m' z = m₀ z
theorem parts_map {m₁ m₀ : Str → Option Value} {c d : Int} {tc td : Tok} (h1 : m₁ (Str.ofString "carried") = some (.int c tc)) (h2 : m₁ (Str.ofString "divides") = some (.int d td))
    (h3 : ∀ z, z ≠ Str.ofString "carried" → z ≠ Str.ofString "divides" → z ≠ Str.ofString "part" → z ≠ Str.ofString "rest" → m₁ z = m₀ z) :
    m₁ = fun y => if y = Str.ofString "carried" then some (.int c tc) else if y = Str.ofString "divides" then some (.int d td) else if y = Str.ofString "part" then m₁ y else if y = Str.ofString "rest" then m₁ y else m₀ y := by
  funext y
  by_cases e1 : y = Str.ofString "carried"
  · subst e1; rw [if_pos rfl]; exact h1
  · rw [if_neg e1]
    by_cases e2 : y = Str.ofString "divides"
    · subst e2; rw [if_pos rfl]; exact h2
    · rw [if_neg e2]
      by_cases e3 : y = Str.ofString "part"
      · rw [if_pos e3]
      · rw [if_neg e3]
        by_cases e4 : y = Str.ofString "rest"
        · rw [if_pos e4]
        · rw [if_neg e4]; exact h3 y e1 e2 e3 e4
theorem parts_loop {Df : Addr} {m₀ : Str → Option Value} {news tl₀ : List (Addr × Obj)} {c₀ : Nat} {tc₀ td₀ : Tok} (N W : Int)
    (F : Fr h₀ L s.heap m₀) (Nw : News h₀ L s.heap ((Df, listOf ([] : List Value).toArray c₀) :: (news ++ tl₀))) (hT : Tab tl₀) (hoff : Off ((Df, listOf ([] : List Value).toArray c₀) :: news) tl₀)
    (hc : m₀ (Str.ofString "carried") = some (.int 0 tc₀)) (hd : m₀ (Str.ofString "divides") = some (.int 1 td₀))
    (turn : ∀ (i : Nat) (us : List Value) (cnt : Nat) (tups tl : List (Addr × Obj)) (tc td : Tok) (u : Str → Option Value) (h : Heap) (tk : Nat), i ≤ per N W → Trip tups us (tabN N W i) → Tab tl → Off ((Df, listOf us.toArray cnt) :: (tups ++ news)) tl → (∀ p ∈ tups, p.1 ≠ Df) →
      Fr h₀ L h (fun y => if y = Str.ofString "carried" then some (.int (cd N W i).1 tc) else if y = Str.ofString "divides" then some (.int (cd N W i).2 td) else if y = Str.ofString "part" then u y else if y = Str.ofString "rest" then u y else m₀ y) →
      News h₀ L h ((Df, listOf us.toArray cnt) :: (tups ++ (news ++ tl))) →
      wpAny (model prog w) A (isTrue test env (eval test env)) (fun b s₂ => if b = true then wpAny (model prog w) A (execs body env) (RevPost (PartsEnd h₀ L Df news m₀ N W (i + 1) s) Q) E s₂ else Q .next s₂) E { s with heap := h, toks := tk })
    (hE : PassesOwn (model prog w) A env E := by passes_own) : wpAny (model prog w) A (exec (.While test body [] pos) env) Q E s := by
  refine While_inv2 (fun n m nx => ∃ (i : Nat) (us : List Value) (cnt : Nat) (tups tl : List (Addr × Obj)) (tc td : Tok), n = 20 - i ∧ nx = (Df, listOf us.toArray cnt) :: (tups ++ (news ++ tl)) ∧ i ≤ per N W ∧ i ≤ 9 ∧ Trip tups us (tabN N W i) ∧ Tab tl ∧ Off ((Df, listOf us.toArray cnt) :: (tups ++ news)) tl ∧ (∀ p ∈ tups, p.1 ≠ Df) ∧
    m (Str.ofString "carried") = some (.int (cd N W i).1 tc) ∧ m (Str.ofString "divides") = some (.int (cd N W i).2 td) ∧
    ∀ z, z ≠ Str.ofString "carried" → z ≠ Str.ofString "divides" → z ≠ Str.ofString "part" → z ≠ Str.ofString "rest" → m z = m₀ z) (n₀ := 20) F Nw ⟨0, [], c₀, [], tl₀, tc₀, td₀, rfl, rfl, Nat.zero_le _, Nat.zero_le _, .nil, hT, hoff, (fun _ h => nomatch h), hc, hd, fun _ _ _ _ _ => rfl⟩ ?_ hE
  rintro n m₁ nx h tk F₁ N₁ ⟨i, us, cnt, tups, tl, tc, td, rfl, rfl, hi, hi9, hTr, hTa, hO, hD, h1, h2, h3⟩
  rw [parts_map h1 h2 h3] at F₁
  refine wpAny_mono (turn i us cnt tups tl tc td m₁ h tk hi hTr hTa hO hD F₁ N₁) (fun b s₂ p => ?_) fun _ _ x => x
  cases b with
  | false => simpa using p
  | true =>
    simp only [if_true] at p ⊢
    refine wpAny_mono p (fun f s₃ q => ?_) fun _ _ x => x
    have fin : PartsEnd h₀ L Df news m₀ N W (i + 1) s s₃ → ∃ (h' : Heap) (tk : Nat) (m' : Str → Option Value) (news' : List (Addr × Obj)) (n' : Nat), s₃ = { s with heap := h', toks := tk } ∧ Fr h₀ L h' m' ∧ News h₀ L h' news' ∧ n' < 20 - i ∧ ∃ (i : Nat) (us : List Value) (cnt : Nat) (tups tl : List (Addr × Obj)) (tc td : Tok), n' = 20 - i ∧ news' = (Df, listOf us.toArray cnt) :: (tups ++ (news ++ tl)) ∧ i ≤ per N W ∧ i ≤ 9 ∧ Trip tups us (tabN N W i) ∧ Tab tl ∧ Off ((Df, listOf us.toArray cnt) :: (tups ++ news)) tl ∧ (∀ p ∈ tups, p.1 ≠ Df) ∧
        m' (Str.ofString "carried") = some (.int (cd N W i).1 tc) ∧ m' (Str.ofString "divides") = some (.int (cd N W i).2 td) ∧
        ∀ z, z ≠ Str.ofString "carried" → z ≠ Str.ofString "divides" → z ≠ Str.ofString "part" → z ≠ Str.ofString "rest" → m' z = m₀ z := by
      rintro ⟨h', tk', m', us', cnt', tups', tl', tc', td', rfl, F', N', hi', hTr', hTa', hO', hD', g1, g2, g3⟩
      refine ⟨h', tk', m', _, 20 - (i + 1), rfl, F', N', by omega, i + 1, us', cnt', tups', tl', tc', td', rfl, rfl, hi', ?_, hTr', hTa', hO', hD', g1, g2, g3⟩
      have : per N W ≤ 9 := by
        unfold per
        cases e : (List.range 9).find? fun i => decide (1 ≤ i) && decide (prt N W i = 2 * W) with
        | none => simp
        | some j => have := List.mem_range.mp (List.mem_of_find?_eq_some e); simp only [Option.getD_some]; omega
      omega
    cases f with
    | ret v => exact q
    | brk => exact q
    | next => exact fin q
    | cont => exact fin q
end
end Mine

namespace Mine
open PySem.Calls PySem.Spec
local macro_rules | `(tactic| k_room) => `(tactic| ktr_room)
local macro_rules | `(tactic| k_all) => `(tactic| first | assumption | exact ne_all3 (by assumption) (by assumption) (by assumption) | (intro p9 h9; have q9 := @kst_ltOf; grind))
local macro_rules | `(tactic| walk_at "call ref") => `(tactic| ((with_reducible show wpAny _ _ (call (Value.ref 56) _) _ _ _); (first
  | (k_dflt (refine' div_spec _ _ _ _ _ _ _ _ _ _ _ _ _ _ _ _ _ _ _ _ _ _ _ _ _ _ _ _ _ _ _ ?ha ?ha' ?hb ?hb' ?hT ?hoff ?B ?F ?X ?N ?hl ?T ?C1 ?C2 ?dp ?un ?_; (case hT => assumption); (case hoff => assumption); (case ha => omega); (case ha' => omega); (case hb => omega); (case hb' => omega); (case B => k_asm); (case F => k_asm); (case X => k_asm); (case N => k_asm); (case hl => (intro p hp; simp only [List.mem_cons, List.mem_append] at hp ⊢; grind)); (case T => k_asm); (case C1 => assumption); (case C2 => assumption); (case dp => ktr_room); (case un => ktr_units)); intro D' t1' t2' tl' h' tk' F' N' T' O' l1; (simp only [List.cons_append, List.append_assoc] at N' l1); (simp only [AllLt] at l1); (try dsimp only))
  | (with_reducible refine Hold.out ?_))))
local macro_rules | `(tactic| walk_at "exec While Compare cons nil") => `(tactic| (with_reducible refine Hold.out ?_))
local macro_rules | `(tactic| walk_at "call builtin:len") => `(tactic| (k_here; (with_reducible show wpAny _ _ (call (Value.builtin "len") [Value.ref _]) _ _ _); (refine KM.len_K (by k_asm) (by k_dflt k_mem) (size_push' (by with_reducible assumption)) (by omega) ?_)))
theorem parts_spec (w : World) (mg mb : Str → Option Value) (mean : ExcName → Option Value) (dp un : Nat) (gd : Option (List Code)) (cn : Str) (nms : List (Str × NameKind)) (ig ic : Bool) (mo : List (Str × Const)) (fa : Addr) (ccd : Value) (cl : List (Str × Addr)) (outer : List Env) (A₀ : Around) (base h₀ : Heap) (L : Addr) (m : Str → Option Value) (s : Shared) (Q E : Value → Shared → Prop) (t u : Tok)
  (led news tl : List (Addr × Obj)) (a b : Int) (K : OkNum a b)
  (hT : Tab tl) (hoff : Off news tl) (B : Below A₀ base outer h₀) (F : Fr h₀ L s.heap m) (X : (hd.heap_39 w.params).In h₀) (N : News h₀ L s.heap led) (hl : ∀ p ∈ news ++ tl, p ∈ led) (T : Top topProg LO mean mg mb h₀) (C1 : CodeHd base 41 37) (C2 : CodeHd base 34 30) (hdp : dp + 80 < recursionLimit) (hu : un + 700 < cLine)
  (ret : ∀ (D : Addr) (us : List Value) (cnt : Nat) (tups tl' : List (Addr × Obj)) (h' : Heap) (tk' : Nat), Fr h₀ L h' m → News h₀ L h' ((D, listOf us.toArray cnt) :: (tups ++ (news ++ tl'))) → Trip tups us (tabN a b (per a b + 1)) → Tab tl' → Off ((D, listOf us.toArray cnt) :: (tups ++ news)) tl' → Q (.ref D) { s with heap := h', toks := tk' }) :
  wpAny (model PySem.Challenge.rw_ia0009_01.row.prog w) (ktrTop dp un gd cn (fnScope nms ig ic mo) L fa ccd cl outer) (call (.ref 72) [.int a t, .int b u]) Q E s := by
  w_top off
  revert X
  k_fill
  intro X
  replace N : News h₀ L s.heap (news ++ tl) := fun p hp => N p (hl p hp)
  clear hl
  k_steps
  unfold Hold
  rename News _ _ _ _ => N9
  rename ∀ p ∈ news ++ tl, p.1 < _ => hA
  have hA2 : ∀ p ∈ news, p.1 ≠ _ := fun p hp => Nat.ne_of_lt (hA p (List.mem_append_left _ hp))
  have hA3 := ne_of_lt (allLt_of fun p hp => hA p (List.mem_append_right news hp))
  clear hA
  refine' parts_loop (news := news) (tl₀ := tl) a b ?F (fun p hp => N9 p (.tail _ hp)) hT ?off ?hc ?hd ?turn
  case F => k_asm
  case off => exact off_cons hA3 hoff
  case hc => rfl
  case hd => rfl
  case turn =>
    clear N9 hoff hT
    intro i us cnt tups tl tc td u h tk hi hTr hTa hO hD F' N'
    have O := K.turn i hi
    have ⟨o1, o2, o3, o4, o5, o6, o7, o8, o9, o10, o11, o12, o13, o14⟩ := O
    have hi8 : i ≤ 8 := Nat.le_trans hi K.k8
    have hul : us.length = i := by rw [hTr.length, tabN_length]
    have hsz : us.toArray.size = i := by rw [List.size_toArray, hul]
    have hlast : i ≠ per a b ∨ prt a b i = 2 * b := by
      by_cases e : i = per a b
      · right; rw [e]; exact K.last
      · exact .inl e
    have w1 := K.w1
    have w6 := K.w6
    have k1 := K.k1
    simp only [cd] at o7 o8 o9 o10 o11
    unfold prt at o12 o13 o14 hlast
    clear O
    have hMk : KstMark := kstMark
    k_steps
    · exact absurd o9 (by assumption)
    · rename @LT.lt Nat _ _ _ ∧ @LT.lt Nat _ _ _ ∧ AllLt _ _ => l9
      have e : per a b = i := by omega
      dsimp only [RevPost]
      k_steps
      rename News h₀ L _ _ => N8
      simp only [List.push_toArray] at N8
      have ⟨n1, n2, n3, n4⟩ := parts_next (N := a) (W := b) (i := i) (news_skip N8) hTr (by assumption) l9.2.1 l9.2.2 hD
      exact ret _ _ _ _ _ _ _ (by assumption) n1 (by rw [e]; exact n2) (by assumption) n3
    all_goals (
      rename @LT.lt Nat _ _ _ ∧ @LT.lt Nat _ _ _ ∧ AllLt _ _ => l9
      rename News _ _ _ _ => N8
      simp only [List.push_toArray] at N8
      have ⟨n1, n2, n3, n4⟩ := parts_next (N := a) (W := b) (i := i) (news_skip N8) hTr (by assumption) l9.2.1 l9.2.2 hD
      refine ⟨_, _, _, _, _, _, _, _, _, rfl, by assumption, n1, by omega, n2, by assumption, n3, n4, by with_unfolding_all rfl, by with_unfolding_all rfl, ?_⟩
      intro z z1 z2 z3 z4
      simp only [if_neg z1, if_neg z2, if_neg z3, if_neg z4])
end Mine

namespace Mine
open PySem.Calls PySem.Spec
local macro_rules | `(tactic| k_room) => `(tactic| ktr_room)
abbrev sqObj (t0 t1 t2 t3 t4 t5 t6 t7 : Tok) (c : Nat) : Obj := listOf #[.int 0 t0, .int 1 t1, .int 4 t2, .int 9 t3, .int 16 t4, .int 25 t5, .int 36 t6, .int 49 t7] c
theorem bis_spec (w : World) (mg mb : Str → Option Value) (mean : ExcName → Option Value) (dp un : Nat) (gd : Option (List Code)) (cn : Str) (nms : List (Str × NameKind)) (ig ic : Bool) (mo : List (Str × Const)) (fa : Addr) (ccd : Value) (cl : List (Str × Addr)) (outer : List Env) (A₀ : Around) (base h₀ : Heap) (L : Addr) (m : Str → Option Value) (s : Shared) (Q E : Value → Shared → Prop) (u : Tok)
  (news : List (Addr × Obj)) (Ds : Addr) (t0 t1 t2 t3 t4 t5 t6 t7 : Tok) (c : Nat) (x : Int) (hx : 2 ≤ x) (hx' : x < 41)
  (B : Below A₀ base outer h₀) (F : Fr h₀ L s.heap m) (X : (hd.heap_39 w.params).In h₀) (N : News h₀ L s.heap ((Ds, sqObj t0 t1 t2 t3 t4 t5 t6 t7 c) :: news)) (T : Top topProg LO mean mg mb h₀) (hdp : dp + 80 < recursionLimit) (hu : un + 700 < cLine)
  (ret : ∀ (W : Int) (t' : Tok) (h' : Heap) (tk' : Nat), Fr h₀ L h' m → News h₀ L h' ((Ds, sqObj t0 t1 t2 t3 t4 t5 t6 t7 c) :: news) → W - 1 = rootOf x.toNat → Q (.int W t') { s with heap := h', toks := tk' }) :
  wpAny (model PySem.Challenge.rw_ia0009_01.row.prog w) (ktrTop dp un gd cn (fnScope nms ig ic mo) L fa ccd cl outer) (call (.ref 65) [.ref Ds, .int x u]) Q E s := by
  w_top off
  revert X
  k_fill
  intro X
  k_steps
  all_goals (
    refine ret _ _ _ _ (by assumption) (by assumption) ?_
    clear ret
    simp at *
    first | omega | (unfold rootOf; (repeat' split) <;> omega) | (exfalso; omega))
theorem bis_use {w : World} {mg mb : Str → Option Value} {mean : ExcName → Option Value} {dp un : Nat} {gd : Option (List Code)} {cn : Str} {nms : List (Str × NameKind)} {ig ic : Bool} {mo : List (Str × Const)} {fa : Addr} {ccd : Value} {cl : List (Str × Addr)} {outer : List Env} {A₀ : Around} {base h₀ : Heap} {L : Addr} {m : Str → Option Value} {s : Shared} {Q E : Value → Shared → Prop} {u : Tok}
  {led : List (Addr × Obj)} {Ds : Addr} {t0 t1 t2 t3 t4 t5 t6 t7 : Tok} {c : Nat} {x : Int} (hx : 2 ≤ x) (hx' : x < 41)
  (B : Below A₀ base outer h₀) (F : Fr h₀ L s.heap m) (X : (hd.heap_39 w.params).In h₀) (N : News h₀ L s.heap led) (hm : (Ds, sqObj t0 t1 t2 t3 t4 t5 t6 t7 c) ∈ led) (T : Top topProg LO mean mg mb h₀) (hdp : dp + 80 < recursionLimit) (hu : un + 700 < cLine)
  (ret : ∀ (W : Int) (t' : Tok) (h' : Heap) (tk' : Nat), Fr h₀ L h' m → News h₀ L h' led → W - 1 = rootOf x.toNat → Q (.int W t') { s with heap := h', toks := tk' }) :
  wpAny (model PySem.Challenge.rw_ia0009_01.row.prog w) (ktrTop dp un gd cn (fnScope nms ig ic mo) L fa ccd cl outer) (call (.ref 65) [.ref Ds, .int x u]) Q E s :=
  bis_spec _ _ _ _ _ _ _ _ _ _ _ _ _ _ _ _ _ _ _ _ _ _ _ _ _ led Ds t0 t1 t2 t3 t4 t5 t6 t7 c x hx hx' B F X (fun p hp => (List.mem_cons.mp hp).elim (fun e => e ▸ N _ hm) (N p)) T hdp hu
    fun W t' h' tk' F' N' hW => ret W t' h' tk' F' (fun p hp => N' p (.tail _ hp)) hW
end Mine

namespace Mine
open PySem.Calls PySem.Spec
theorem root_facts : ∀ n < 41, 2 ≤ n → 1 ≤ rootOf n ∧ rootOf n ≤ 6 ∧ rootOf n * rootOf n ≤ n ∧ n < (rootOf n + 1) * (rootOf n + 1) := by decide +kernel
theorem num_facts {x W : Int} (h : 2 ≤ x) (h' : x < 41) (hW : W - 1 = rootOf x.toNat) : 1 ≤ W - 1 ∧ W - 1 ≤ 6 ∧ (W - 1) * (W - 1) ≤ x ∧ x < (W - 1 + 1) * (W - 1 + 1) ∧ ((W - 1) * (W - 1) ≠ x ∨ OkNum (x + 1) (W - 1)) ∧ ((W - 1) * (W - 1) = x ∨ OkNum x (W - 1)) := by
  obtain ⟨n, rfl⟩ := Int.eq_ofNat_of_zero_le (by omega : 0 ≤ x)
  rw [Int.toNat_natCast] at hW
  rw [hW]
  obtain ⟨r1, r2, r3, r4⟩ := root_facts n (by omega) (by omega)
  have ok := okNum_of (okNum_all n (by omega) (by omega))
  unfold fixN at ok
  refine ⟨by omega, by omega, by exact_mod_cast r3, by exact_mod_cast r4, ?_, ?_⟩
  · by_cases e : rootOf n * rootOf n = n
    · rw [if_pos e] at ok
      exact .inr (by exact_mod_cast ok)
    · exact .inl (fun q => e (by exact_mod_cast q))
  · by_cases e : rootOf n * rootOf n = n
    · exact .inl (by exact_mod_cast e)
    · rw [if_neg e] at ok
      exact .inr ok
theorem news_sw1 {h₀ h : Heap} {L : Addr} {a b : Addr × Obj} {r : List (Addr × Obj)} (N : News h₀ L h (a :: b :: r)) : News h₀ L h (b :: a :: r) := fun p hp => N p (by simp only [List.mem_cons] at hp ⊢; grind)
theorem news_sw {h₀ h : Heap} {L : Addr} {a b c x y : Addr × Obj} (N : News h₀ L h [a, b, c, x, y]) : News h₀ L h (a :: b :: c :: [y, x]) := fun p hp => N p (by simp only [List.mem_cons, List.not_mem_nil, or_false] at hp ⊢; grind)
theorem off_two {a b c : Nat} {oa ob oc x y : Obj} (h1 : a ≠ 30) (h2 : a ≠ 37) (h3 : b ≠ 30) (h4 : b ≠ 37) (h5 : c ≠ 30) (h6 : c ≠ 37) : Off [(a, oa), (b, ob), (c, oc)] [(30, x), (37, y)] := by
  intro p hp q hq
  simp only [List.mem_cons, List.not_mem_nil, or_false] at hp hq
  rcases hp with rfl | rfl | rfl <;> rcases hq with rfl | rfl <;> assumption
section
variable {prog : Program} {w : World} {A : Around} {E : Value → Shared → Prop} {s : Shared} {env : Env} {h₀ : Heap} {body : List Stmt} {Q : Flow → Shared → Prop}
def OuterEnd (h₀ : Heap) (L Dl Ds Cw : Addr) (lo os : Obj) (own : List (Addr × Obj)) (s₁ s₂ : Shared) : Prop :=
  ∃ (h' : Heap) (tk : Nat) (m' : Str → Option Value) (oC : Obj) (v : Option Value) (tl : List (Addr × Obj)), s₂ = { s₁ with heap := h', toks := tk } ∧ Fr h₀ L h' m' ∧ m' (Str.ofString "squares") = some (.ref Ds) ∧
    News h₀ L h' ((Dl, lo) :: (Ds, os) :: (Cw, oC) :: (own ++ tl)) ∧ oC.data = .cell v ∧ Tab tl ∧ Off ((Dl, lo) :: (Ds, os) :: (Cw, oC) :: own) tl
theorem outer_map {m₁ : Str → Option Value} {v : Value} {Ds : Addr} (h : m₁ (Str.ofString "squares") = some (.ref Ds)) :
    (fun y => if y = Str.ofString "cell" then some v else m₁ y) = fun y => if y = Str.ofString "cell" then some v else if y = Str.ofString "squares" then some (.ref Ds) else m₁ y := by
  funext y
  by_cases e1 : y = Str.ofString "cell"
  · simp [e1]
  · rw [if_neg e1, if_neg e1]
    by_cases e2 : y = Str.ofString "squares"
    · subst e2; rw [if_pos rfl]; exact h
    · rw [if_neg e2]
theorem outer_loop {Dl Ds Cw : Addr} {vs : List Value} {ns : List Int} {nn : Nat} {os oC₀ : Obj} {v₀ : Option Value} {tl₀ : List (Addr × Obj)} {m₀ : Str → Option Value}
    (hh : A.handled = none) (F : Fr h₀ env.locals s.heap m₀) (N : News h₀ env.locals s.heap ((Dl, listOf vs.toArray nn) :: (Ds, os) :: (Cw, oC₀) :: tl₀)) (hT : Tab tl₀) (hO : Off ((Dl, listOf vs.toArray nn) :: (Ds, os) :: (Cw, oC₀) :: []) tl₀)
    (hC : oC₀.data = .cell v₀) (hm : m₀ (Str.ofString "squares") = some (.ref Ds)) (hiv : IntsAre vs ns)
    (turn : ∀ (d : Int) (t : Tok) (own : List (Addr × Obj)) (oC : Obj) (v : Option Value) (tl : List (Addr × Obj)) (u : Str → Option Value) (h : Heap) (tk : Nat), oC.data = .cell v → Tab tl → Off ((Dl, listOf vs.toArray nn) :: (Ds, os) :: (Cw, oC) :: own) tl →
      (∀ p ∈ own, p.1 ≠ Dl) → (∀ p ∈ own, p.1 ≠ Ds) → (∀ p ∈ own, p.1 ≠ Cw) →
      Fr h₀ env.locals h (fun y => if y = Str.ofString "cell" then some (.int d t) else if y = Str.ofString "squares" then some (.ref Ds) else u y) →
      News h₀ env.locals h ((Dl, listOf vs.toArray nn) :: (Ds, os) :: (Cw, oC) :: (own ++ tl)) →
      wpAny (model prog w) A (execs body env) (RevPost (OuterEnd h₀ env.locals Dl Ds Cw (listOf vs.toArray nn) os own { s with heap := h, toks := tk }) Q) E { s with heap := h, toks := tk })
    (done : ∀ (oC : Obj) (v : Option Value) (tl : List (Addr × Obj)) (m₁ : Str → Option Value) (h : Heap) (tk : Nat), oC.data = .cell v → Tab tl → Fr h₀ env.locals h m₁ → News h₀ env.locals h ((Dl, listOf vs.toArray nn) :: (Ds, os) :: (Cw, oC) :: tl) → Q .next { s with heap := h, toks := tk }) :
    wpAny (model prog w) A (pyIter (.ref Dl)) (fun it s₂ => LoopAtV prog w A h₀ env (Str.ofString "cell") body Q E it s₂) E s := by
  refine kdl_iter (nn := nn) (vs := vs) (fun _ m nx => ∃ (oC : Obj) (v : Option Value) (tl : List (Addr × Obj)), nx = (Dl, listOf vs.toArray nn) :: (Ds, os) :: (Cw, oC) :: tl ∧ oC.data = .cell v ∧ Tab tl ∧ Off ((Dl, listOf vs.toArray nn) :: (Ds, os) :: (Cw, oC) :: []) tl ∧ m (Str.ofString "squares") = some (.ref Ds))
    hh (.head _) F N ⟨oC₀, v₀, tl₀, rfl, hC, hT, hO, hm⟩ ?_ ?_
  · rintro i x m₁ nx h tk own hx hoff _ ⟨oC, v, tl, rfl, hC', hT', hO', hm'⟩ F' N'
    obtain ⟨k, t, rfl, hk⟩ := IntsAre.at hiv i x hx
    rw [outer_map hm'] at F'
    have o1 : Off own tl := fun p hp q hq => hoff p hp q.1 (List.mem_map.mpr ⟨q, .tail _ (.tail _ (.tail _ hq)), rfl⟩)
    have a1 : ∀ p ∈ own, p.1 ≠ Dl := fun p hp => hoff p hp Dl (.head _)
    have a2 : ∀ p ∈ own, p.1 ≠ Ds := fun p hp => hoff p hp Ds (.tail _ (.head _))
    have a3 : ∀ p ∈ own, p.1 ≠ Cw := fun p hp => hoff p hp Cw (.tail _ (.tail _ (.head _)))
    have O2 : Off ((Dl, listOf vs.toArray nn) :: (Ds, os) :: (Cw, oC) :: own) tl := fun p hp => by
      rcases List.mem_cons.mp hp with rfl | hp
      · exact hO' _ (.head _)
      · rcases List.mem_cons.mp hp with rfl | hp
        · exact hO' (Ds, os) (.tail _ (.head _))
        · rcases List.mem_cons.mp hp with rfl | hp
          · exact hO' (Cw, oC) (.tail _ (.tail _ (.head _)))
          · exact o1 p hp
    have N2 : News h₀ env.locals h ((Dl, listOf vs.toArray nn) :: (Ds, os) :: (Cw, oC) :: (own ++ tl)) := fun p hp => N' p (by simp only [List.mem_cons, List.mem_append] at hp ⊢; grind)
    refine wpAny_mono (turn k t own oC v tl m₁ h tk hC' hT' O2 a1 a2 a3 F' N2) (fun f s₂ p => ?_) fun _ _ e => e
    have fin : OuterEnd h₀ env.locals Dl Ds Cw (listOf vs.toArray nn) os own { s with heap := h, toks := tk } s₂ →
        InvEndG h₀ env.locals (fun m' nx => (Dl, listOf vs.toArray nn) ∈ nx ∧ ∃ (oC : Obj) (v : Option Value) (tl : List (Addr × Obj)), nx = (Dl, listOf vs.toArray nn) :: (Ds, os) :: (Cw, oC) :: tl ∧ oC.data = .cell v ∧ Tab tl ∧ Off ((Dl, listOf vs.toArray nn) :: (Ds, os) :: (Cw, oC) :: []) tl ∧ m' (Str.ofString "squares") = some (.ref Ds)) own { s with heap := h, toks := tk } s₂ := by
      rintro ⟨h', tk', m', oC', v', tl', e, F₁, g1, N₁, g2, g3, g4⟩
      refine ⟨h', tk', m', _, (Dl, listOf vs.toArray nn) :: (Ds, os) :: (Cw, oC') :: tl', e, F₁, N₁, ?_, ?_, ?_, .head _, oC', v', tl', rfl, g2, g3, ?_, g1⟩
      · intro p hp; simp only [List.mem_cons, List.mem_append] at hp ⊢; grind
      · intro p hp; simp only [List.mem_cons, List.mem_append]; grind
      · intro p hp b hb
        obtain ⟨q, hq, rfl⟩ := List.mem_map.mp hb
        rcases List.mem_cons.mp hq with rfl | hq
        · exact a1 p hp
        · rcases List.mem_cons.mp hq with rfl | hq
          · exact a2 p hp
          · rcases List.mem_cons.mp hq with rfl | hq
            · exact a3 p hp
            · exact g4 p (.tail _ (.tail _ (.tail _ hp))) q hq
      · intro p hp q hq
        refine g4 p ?_ q hq
        simp only [List.mem_cons, List.not_mem_nil, or_false] at hp ⊢
        grind
    cases f with
    | ret v => exact p
    | brk => exact p
    | next => exact fin p
    | cont => exact fin p
  · rintro m₁ nx h tk ⟨oC, v, tl, rfl, hC', hT', _, _⟩ F' N'
    exact done oC v tl m₁ h tk hC' hT' F' N'
end
end Mine

namespace Mine
open PySem.Calls PySem.Spec
def lawT (N W : Int) : List (Int × Int × Int) := tabN N W (per N W + 1)
def lawP (N W : Int) : List Int := (lawT N W).map (·.1)
def lawM (N W : Int) : List Int := ((lawP N W).drop 1).take (per N W - 1)
/-- the tops (or lows) after i turns -/
def conv (x0 x1 : Int) (M : List Int) : Nat → List Int
  | 0 => [x0, x1]
  | i + 1 => conv x0 x1 M i ++ [M.getD i 0 * (conv x0 x1 M i).getD (i + 1) 0 + (conv x0 x1 M i).getD i 0]
theorem conv_length (x0 x1 : Int) (M : List Int) (i : Nat) : (conv x0 x1 M i).length = i + 2 := by
  induction i with
  | zero => rfl
  | succ i ih => simp [conv, ih]
def okLaw (N W : Int) : Bool :=
  let k := per N W
  let tops := conv 1 W (lawM N W) (k - 1)
  let lows := conv 0 1 (lawM N W) (k - 1)
  decide ((lawP N W).getD 0 0 = W ∧ (lawP N W).getD k 0 = 2 * W ∧ (lawM N W).reverse = lawM N W ∧ (lawM N W).length = k - 1 ∧
    ((lawT N W).getD k (0, 0, 0)).2 = ((lawT N W).getD 0 (0, 0, 0)).2) &&
  ((lawT N W).all fun x => decide (0 < x.2.1 ∧ x.2.1 ≤ W ∧ 0 < x.2.2 ∧ x.2.2 ≤ 2 * W)) &&
  ((List.range k).all fun i => decide (tops.getD (i + 1) 0 ^ 2 - N * lows.getD (i + 1) 0 ^ 2 = ((lawT N W).getD i (0, 0, 0)).2.2 * (1 - 2 * ((i + 1 : Nat) : Int).fmod 2))) &&
  (let t := tops.getD k 0
   let l := lows.getD k 0
   decide ((t * t - N * l * l).natAbs = 1 ∧ (t * t + N * l * l) ^ 2 - N * (2 * t * l) ^ 2 = 1))
theorem okLaw_all : ∀ n < 48, ∀ w < 7, okNum (n : Nat) (w : Nat) = true → okLaw (n : Nat) (w : Nat) = true := by decide +kernel
end Mine

namespace Mine
open PySem.Calls PySem.Spec
section
variable {M : Model} {A : Around} {E : Value → Shared → Prop} {s : Shared} {env : Env} {h₀ : Heap} {L : Addr} {st : Stmt} {m : Str → Option Value} {led : List (Addr × Obj)} {Q : Flow → Shared → Prop}
def MPost (h₀ : Heap) (L : Addr) (m : Str → Option Value) (led : List (Addr × Obj)) (C : Int → Prop) (s : Shared) (f : Flow) (s' : Shared) : Prop := match f with
  | .next => ∃ (n : Int) (t : Tok) (h : Heap) (tk : Nat), s' = { s with heap := h, toks := tk } ∧ C n ∧ Fr h₀ L h (fun y => if y = Str.ofString "number" then some (.int n t) else m y) ∧ News h₀ L h led
  | _ => False
theorem merge_if (C : Int → Prop) (_F : Fr h₀ L s.heap m) (_N : News h₀ L s.heap led) (walk : wpAny M A (exec st env) (MPost h₀ L m led C s) E s)
    (next : ∀ (n : Int) (t : Tok) (h : Heap) (tk : Nat), C n → Fr h₀ L h (fun y => if y = Str.ofString "number" then some (.int n t) else m y) → News h₀ L h led → Q .next { s with heap := h, toks := tk }) : wpAny M A (exec st env) Q E s := by
  refine wpAny_mono walk (fun f s' p => ?_) fun _ _ e => e
  cases f with
  | next => obtain ⟨n, t, h, tk, rfl, c, F, N⟩ := p; exact next n t h tk c F N
  | ret v => exact p.elim
  | brk => exact p.elim
  | cont => exact p.elim
theorem fr_same {h : Heap} {x : Str} {v : Value} (F : Fr h₀ L h m) (e : m x = some v) : Fr h₀ L h (fun y => if y = x then some v else m y) := by
  have : (fun y => if y = x then some v else m y) = m := by
    funext y
    by_cases q : y = x
    · rw [if_pos q, q]; exact e.symm
    · rw [if_neg q]
  rw [this]
  exact F
end
theorem off_cell {a b : Addr × Obj} {c : Addr} {o o' : Obj} {r tl : List (Addr × Obj)} (h : Off (a :: b :: (c, o) :: r) tl) : Off (a :: b :: (c, o') :: r) tl :=
  off_cons (h a (.head _)) (off_cons (h b (.tail _ (.head _))) (off_cons (h (c, o) (.tail _ (.tail _ (.head _)))) fun p hp => h p (.tail _ (.tail _ (.tail _ hp)))))
theorem parts_use {w : World} {mg mb : Str → Option Value} {mean : ExcName → Option Value} {dp un : Nat} {gd : Option (List Code)} {cn : Str} {nms : List (Str × NameKind)} {ig ic : Bool} {mo : List (Str × Const)} {fa : Addr} {ccd : Value} {cl : List (Str × Addr)} {outer : List Env} {A₀ : Around} {base h₀ : Heap} {L : Addr} {m : Str → Option Value} {s : Shared} {Q E : Value → Shared → Prop} {t u : Tok}
  {e1 e2 e3 : Addr × Obj} {own tl : List (Addr × Obj)} {a b : Int} (K : OkNum a b)
  (hT : Tab tl) (hoff : Off (e1 :: e2 :: e3 :: own) tl) (B : Below A₀ base outer h₀) (F : Fr h₀ L s.heap m) (X : (hd.heap_39 w.params).In h₀) (N : News h₀ L s.heap (e1 :: e2 :: e3 :: (own ++ tl))) (T : Top topProg LO mean mg mb h₀) (C1 : CodeHd base 41 37) (C2 : CodeHd base 34 30) (hdp : dp + 80 < recursionLimit) (hu : un + 700 < cLine)
  (ret : ∀ (D : Addr) (us : List Value) (cnt : Nat) (tups tl' : List (Addr × Obj)) (h' : Heap) (tk' : Nat), Fr h₀ L h' m → News h₀ L h' ((D, listOf us.toArray cnt) :: e1 :: e2 :: e3 :: (tups ++ (own ++ tl'))) → Trip tups us (tabN a b (per a b + 1)) → Tab tl' → Off (e1 :: e2 :: e3 :: own) tl' → Q (.ref D) { s with heap := h', toks := tk' }) :
  wpAny (model PySem.Challenge.rw_ia0009_01.row.prog w) (ktrTop dp un gd cn (fnScope nms ig ic mo) L fa ccd cl outer) (call (.ref 72) [.int a t, .int b u]) Q E s :=
  parts_spec _ _ _ _ _ _ _ _ _ _ _ _ _ _ _ _ _ _ _ _ _ _ _ _ _ _ _ (e1 :: e2 :: e3 :: own) tl a b K hT hoff B F X N (fun _ h => h) T C1 C2 hdp hu
    fun D us cnt tups tl' h' tk' F' N' hTr hT' hO' => ret D us cnt tups tl' h' tk' F' (fun p hp => N' p (by simp only [List.mem_cons, List.mem_append] at hp ⊢; grind)) hTr hT' (fun p hp => hO' p (.tail _ (List.mem_append_right _ hp)))
end Mine

namespace Mine
open PySem.Calls PySem.Spec PyProof.Rows.LCg
theorem Trip.get {led : List (Addr × Obj)} {vs : List Value} {rs : List (Int × Int × Int)} (h : Trip led vs rs) {i : Nat} {v : Value} (hv : vs[i]? = some v) : ∃ a x t1 t2 t3, v = .ref a ∧ rs[i]? = some x ∧ (a, tup3 x t1 t2 t3) ∈ led := by
  induction h with
  | nil => cases hv
  | @snoc vs rs x a t1 t2 t3 h m ih =>
    by_cases hi : i < vs.length
    · rw [List.getElem?_append_left hi] at hv
      obtain ⟨a', x', u1, u2, u3, e, e2, e3⟩ := ih hv
      exact ⟨a', x', u1, u2, u3, e, by rw [List.getElem?_append_left (by rw [← h.length]; exact hi)]; exact e2, e3⟩
    · rw [List.getElem?_append_right (by omega)] at hv
      have e0 : i - vs.length = 0 := by
        by_cases q : i - vs.length = 0
        · exact q
        · rw [List.getElem?_eq_none (by simp; omega)] at hv; cases hv
      rw [e0] at hv
      cases hv
      exact ⟨a, x, t1, t2, t3, rfl, by rw [List.getElem?_append_right (by rw [← h.length]; omega), ← h.length, e0]; rfl, m⟩
section
variable {prog : Program} {w : World} {A : Around} {E : Value → Shared → Prop} {s : Shared} {h₀ : Heap} {L : Addr} {m : Str → Option Value} {env : Env}
abbrev tests (ifs : List Expr) (env : Env) : Sem Bool := forIn ifs true fun c r => if r = true then do let ok ← isTrue c env (eval c env); pure (ForInStep.yield ok) else pure (ForInStep.yield r)
theorem c3_loop {elt target iter : Expr} {ifs : List Expr} {scope : Scope} {pos : Pos} {it acc : Value} {env : Env} {R : Result → Shared → Prop} (I : Nat → Shared → Prop)
    (turn : ∀ n s, I n s → wpAny (model prog w) A (pyNext it) (fun r s₁ => match r with
      | none => R (.ok .next) s₁
      | some v => wpAny (model prog w) A (letOwnedTupleGo target it v) (fun _ s₀ => wpAny (model prog w) A (assign target env v) (fun _ s₂ =>
          wpAny (model prog w) A (tests ifs env) (fun ok s₃ =>
            if ok = true then wpAny (model prog w) A (eval elt env) (fun x s₄ =>
              wpAny (model prog w) A (call (.builtin "list.append") [acc, x]) (fun _ s₅ => ∃ m, m < n ∧ I m s₅) (notedBy (model prog w) A env fun e s' => R (.error e) s') s₄) (notedBy (model prog w) A env fun e s' => R (.error e) s') s₃
            else ∃ m, m < n ∧ I m s₃) (notedBy (model prog w) A env fun e s' => R (.error e) s') s₂) (notedBy (model prog w) A env fun e s' => R (.error e) s') s₀)
          (notedBy (model prog w) A env fun e s' => R (.error e) s') s₁) (notedBy (model prog w) A env fun e s' => R (.error e) s') s)
    (n : Nat) (h : I n s) : codeAny (model prog w) A (.compLoop (.ListComp elt [⟨target, iter, ifs, 0⟩] scope pos) 0 it acc env) R s := by
  refine codeAny_loop rfl I (fun n s hI => ?_) n h
  show wpAny _ A ((compTurn (.ListComp elt [⟨target, iter, ifs, 0⟩] scope pos) 0 it acc env).onRaise (fun x => do noteFrame x env; theTreesLotGoes x)) _ _ s
  refine wpAny_noted ?_
  rw [compTurn_list]
  refine wpAny_bind (wpAny_standAt (wpAny_bind (wpAny_mono (turn n s hI) (fun r s₁ h₁ => ?_) fun _ _ h' => h')))
  cases r with
  | none => exact wpAny_pure h₁
  | some v =>
    refine wpAny_bind (wpAny_mono h₁ (fun _ s₀ h₀ => ?_) fun _ _ h' => h')
    refine wpAny_bind (wpAny_mono h₀ (fun _ s₂ h₂ => wpAny_bind (wpAny_mono h₂ (fun ok s₃ h₃ => ?_) fun _ _ h' => h')) fun _ _ h' => h')
    cases ok with
    | false => exact wpAny_pure ⟨rfl, h₃⟩
    | true =>
      exact wpAny_bind (wpAny_bind (wpAny_mono h₃ (fun x s₄ h₄ => wpAny_bind (wpAny_mono h₄ (fun _ s₅ h₅ => wpAny_pure (wpAny_pure ⟨rfl, h₅⟩)) fun _ _ h' => h')) fun _ _ h' => h'))

def C3End (h₀ : Heap) (L : Addr) (m : Str → Option Value) (s₁ : Shared) (I : Addr) (oI : Obj) (C : Addr) (oC : Obj) (D : Addr) (ys : List Value) (news : List (Addr × Obj)) (P : Prop) (s₂ : Shared) : Prop :=
  ∃ h' tk, s₂ = { s₁ with heap := h', toks := tk } ∧ Fr h₀ L h' m ∧ News h₀ L h' ((I, oI) :: (C, oC) :: (D, lst ys) :: news) ∧ P
/-- the turns of a comprehension over a list of triples, its ledger unchanged -/
def C3Turn (prog : Program) (w : World) (A : Around) (h₀ : Heap) (L : Addr) (m : Str → Option Value) (env : Env) (elt : Expr) (ifs : List Expr) (a b c : Str) (scope : Scope) (cl : List (Str × Addr)) (news : List (Addr × Obj)) (rs : List (Int × Int × Int)) (Acc : Nat → List Value → Prop) (s : Shared) : Prop :=
  ∀ (i : Nat) (x : Int × Int × Int) (t1 t2 t3 : Tok) (I : Addr) (oI : Obj) (C : Addr) (oC : Obj) (D : Addr) (m₂ : Str → Option Value) (ys : List Value) (h : Heap) (tk : Nat) (E' : Value → Shared → Prop), rs[i]? = some x → Acc i ys → NsObj oC m₂ → m₂ a = some (.int x.1 t1) → m₂ b = some (.int x.2.1 t2) → m₂ c = some (.int x.2.2 t3) →
    Fr h₀ L h m → News h₀ L h ((I, oI) :: (C, oC) :: (D, lst ys) :: news) → Off3 I C D news → ((@Ne Nat I C) ∧ (@Ne Nat I D) ∧ (@Ne Nat C D)) →
    wpAny (model prog w) A (tests ifs (compEnvC scope cl C env)) (fun ok s₃ => if ok = true then
      wpAny (model prog w) A (eval elt (compEnvC scope cl C env)) (fun y s₄ => C3End h₀ L m { s with heap := h, toks := tk } I oI C oC D ys news (Acc (i + 1) (ys ++ [y])) s₄) E' s₃
      else C3End h₀ L m { s with heap := h, toks := tk } I oI C oC D ys news (Acc (i + 1) ys) s₃) E' { s with heap := h, toks := tk }

theorem block3 {elt iter : Expr} {ifs : List Expr} {a b c : Str} {pa pb pc tp : Pos} {kk} {scope : Scope} {cl : List (Str × Addr)} {pos : Pos} {s₂ : Shared} {I Dp : Addr} {us : List Value} {rs : List (Int × Int × Int)} {cnt : Nat} {news : List (Addr × Obj)}
    {Acc : Nat → List Value → Prop} {RR : Value → Addr → Result → Shared → Prop} (hsz : us.length ≤ sizeLine) (hlen : ∀ i ys, Acc i ys → ys.length ≤ i)
    (hcell : ∀ y ∈ scope.names, y.2 ≠ .cell) (hkind : scope.kind = .function) (hxa : scope.names.lookup a = some .local) (hxb : scope.names.lookup b = some .local) (hxc : scope.names.lookup c = some .local) (hab : a ≠ b) (hac : a ≠ c) (hbc : b ≠ c) (hh : A.handled = none)
    (hit : s₂.heap.IsListIter I Dp 0) (hm : (Dp, listOf us.toArray cnt) ∈ news) (hTr : Trip news us rs)
    (F : Fr h₀ L s₂.heap m) (N : News h₀ L s₂.heap news) (hIL : L ≠ I) (hI₀ : h₀.get? I = none) (off : ∀ p ∈ news, p.1 ≠ I) (acc0 : Acc 0 [])
    (R : C3Turn prog w A h₀ L m env elt ifs a b c scope cl news rs Acc s₂)
    (hRR : ∀ D C h tk m' ys, Fr h₀ L h m → News h₀ L h ((D, lst ys) :: news) → (∀ p ∈ news, p.1 < D) → h.Ns C m' → h₀.get? C = none → h₀.get? D = none → C ≠ L → D ≠ L → C ≠ D → (∀ p ∈ news, p.1 ≠ C) → Acc us.length ys → RR (.ref D) C (.ok .next) { s₂ with heap := h, toks := tk }) :
    wpAny (model prog w) A (newList []) (fun acc s₃ => wpAny (model prog w) A (newFunctionEnv scope env.globals cl [] env.qual none .none (some env)) (fun cenv s₄ =>
      codeAny (model prog w) A (.compStart (.ListComp elt [⟨.Tuple [.Name a pa, .Name b pb, .Name c pc] kk tp, iter, ifs, 0⟩] scope pos) 0 (.ref I) acc { cenv with scope := relabel scope env }) (RR acc cenv.locals) s₄) E s₃) E s₂ := by
  refine wpAny_newObj_type (wpAny_newFunctionEnv hcell (by intro y hy; simp at hy) (fun h₁ hns₁ hsb₁ => ?_) hkind)
  dsimp only at hns₁ hsb₁ ⊢
  generalize hH2 : s₂.heap.push { cls := .type "list", dict := none, data := .seq ([] : List Value).toArray } = H2 at hns₁ hsb₁ ⊢
  have hC : H2.objs.size = s₂.heap.objs.size + 1 := by rw [← hH2, Heap.size_push]
  have hDC : s₂.heap.objs.size ≠ H2.objs.size := by rw [hC]; exact Nat.ne_of_lt (Nat.lt_succ_self _)
  have below : ∀ b, b < s₂.heap.objs.size → b ≠ H2.objs.size ∧ b ≠ s₂.heap.objs.size := fun b hb => ⟨by rw [hC]; exact Nat.ne_of_lt (Nat.lt_succ_of_lt hb), Nat.ne_of_lt hb⟩
  have hIlt : I < s₂.heap.objs.size := by obtain ⟨o, e, _⟩ := hit; exact Heap.lt_size e
  have old : ∀ b o, s₂.heap.get? b = some o → h₁.get? b = some o := fun b o e => hsb₁.extBut b o (below b (Heap.lt_size e)).1 (Heap.get?_push_of_some _ (hH2 ▸ Heap.get?_push_of_some _ e))
  have hacc : h₁.get? s₂.heap.objs.size = some (lst []) := hsb₁.extBut _ _ hDC (Heap.get?_push_of_some _ (hH2 ▸ Heap.get?_push_size _ rfl))
  have hit₁ : h₁.IsListIter I Dp 0 := by obtain ⟨o, e, r⟩ := hit; exact ⟨o, old _ _ e, r⟩
  have fresh : ∀ a, s₂.heap.objs.size ≤ a → s₂.heap.get? a = none := fun a ha => by
    cases e : s₂.heap.get? a with
    | none => rfl
    | some o' => exact absurd (Heap.lt_size e) (Nat.not_lt.mpr ha)
  have fresh₀ : ∀ a, s₂.heap.objs.size ≤ a → h₀.get? a = none := fun a ha => by
    cases e : h₀.get? a with
    | none => rfl
    | some o' => have := F.keep a o' e; rw [fresh a ha] at this; cases this
  have hD₀ : h₀.get? s₂.heap.objs.size = none := fresh₀ _ (Nat.le_refl _)
  have hC₀ : h₀.get? H2.objs.size = none := fresh₀ _ (by rw [hC]; exact Nat.le_succ _)
  have hLlt : L < s₂.heap.objs.size := F.ns.lt
  have hDL : s₂.heap.objs.size ≠ L := Ne.symm (below L hLlt).2
  have hCL : H2.objs.size ≠ L := Ne.symm (below L hLlt).1
  have hCI : I ≠ H2.objs.size := (below I hIlt).1
  have hDI : I ≠ s₂.heap.objs.size := (below I hIlt).2
  have ltD : ∀ p ∈ news, p.1 < s₂.heap.objs.size := fun p hp => Heap.lt_size (N p hp).1
  have off3 : ∀ p ∈ news, p.1 ≠ I ∧ p.1 ≠ H2.objs.size ∧ p.1 ≠ s₂.heap.objs.size := fun p hp => ⟨off p hp, (below _ (ltD p hp)).1, (below _ (ltD p hp)).2⟩
  have W := Walks.list (prog := prog) (w := w) hh I Dp (off _ hm) us.toArray
  have hus : us.toArray.size = us.length := List.size_toArray
  have lis : ∀ {h : Heap} {x : List (Addr × Obj)}, News h₀ L h x → (∀ p ∈ news, p ∈ x) → h.IsList Dp us.toArray := fun N' k => ⟨_, (N' _ (k _ hm)).1, rfl, cnt, rfl⟩
  have loop : ∀ s₃ : Shared, s₃ = { s₂ with heap := h₁, toks := s₂.toks + ([] : List (Str × Value)).length } →
      codeAny (model prog w) A (.compLoop (.ListComp elt [⟨.Tuple [.Name a pa, .Name b pb, .Name c pc] kk tp, iter, ifs, 0⟩] scope pos) 0 (.ref I) (.ref s₂.heap.objs.size) (compEnvC scope cl H2.objs.size env))
        (RR (.ref s₂.heap.objs.size) H2.objs.size) s₃ := by
    rintro s₃ rfl
    refine c3_loop
      (fun k s' => ∃ h' tk i ys m', s' = { s₂ with heap := h', toks := tk } ∧ i ≤ us.length ∧ k = us.length + 1 - i ∧ Acc i ys ∧ h'.IsListIter I Dp i ∧ Fr h₀ L h' m ∧ h'.Ns H2.objs.size m' ∧ News h₀ L h' ((s₂.heap.objs.size, lst ys) :: news)) ?_ (us.length + 1)
      ⟨h₁, _, 0, [], _, rfl, Nat.zero_le _, rfl, acc0, hit₁, F.keeps old, hns₁, fun p hp => ?_⟩
    · rintro k s' ⟨h', tk, i, ys, m', rfl, hi, rfl, hA, hit', F', hn', N'⟩
      have st' : h'.IsListIter I Dp i ∧ h'.IsList Dp us.toArray := ⟨hit', lis N' fun p hp => .tail _ hp⟩
      by_cases hlt : i < us.length
      · refine W.item i _ _ _ (by rw [hus]; exact hlt) st' fun v h₂ tk₂ hPv hst₂ hk₂ => ?_
        obtain ⟨t, x, t1, t2, t3, rfl, hx, hmt⟩ := hTr.get (by simpa using hPv)
        have N₂ : News h₀ L h₂ ((s₂.heap.objs.size, lst ys) :: news) := news_but N' hk₂ fun p hp => by
          rcases List.mem_cons.mp hp with rfl | hp
          · exact Ne.symm hDI
          · exact off p hp
        have ht : IsTup h₂ t #[.int x.1 t1, .int x.2.1 t2, .int x.2.2 t3] := ⟨_, (N₂ _ (.tail _ hmt)).1, rfl, 0, rfl⟩
        refine wpAny_letOwnedTupleGo_listiter hst₂.1 ?_
        refine assign_Tuple_tuple hh ht rfl rfl fun h₅ he => ?_
        have he' : ∀ b o, h₂.get? b = some o → h₅.get? b = some o := fun b o e => he b o (Nat.ne_of_lt (Heap.lt_size e)) e
        refine assignInOrder_cons (wpAny_assign_Name (wpAny_storeName_local (lookup_relabel_local hxa) ((hn'.at' fun o e => hk₂ _ o (by simpa using Ne.symm hCI) e).at' fun o e => he' _ o e) (fun h₆ hn₆ hs₆ => ?_) (by simp [compEnvC, relabel, hkind])))
        refine assignInOrder_cons (wpAny_assign_Name (wpAny_storeName_local (lookup_relabel_local hxb) hn₆ (fun h₇ hn₇ hs₇ => ?_) (by simp [compEnvC, relabel, hkind])))
        refine assignInOrder_cons (wpAny_assign_Name (wpAny_storeName_local (lookup_relabel_local hxc) hn₇ (fun h₃ hn₃ hs₃ => ?_) (by simp [compEnvC, relabel, hkind])))
        refine assignInOrder_nil ?_
        have old3 : ∀ b o, b ≠ H2.objs.size → h₂.get? b = some o → h₃.get? b = some o := fun b o hb e => hs₃.extBut b o hb (hs₇.extBut b o hb (hs₆.extBut b o hb (he' b o e)))
        obtain ⟨oI, heI2, hcI, hdI⟩ := hst₂.1
        have heI : h₃.get? I = some oI := old3 _ _ hCI heI2
        obtain ⟨oC, heC, hoC⟩ := ns_obj hn₃
        have F₃ : Fr h₀ L h₃ m := ((((fr_but F' hk₂ hIL hI₀).keeps he').change hs₆ hCL hC₀).change hs₇ hCL hC₀).change hs₃ hCL hC₀
        have N₃ : News h₀ L h₃ ((I, oI) :: (H2.objs.size, oC) :: (s₂.heap.objs.size, lst ys) :: news) := fun p hp => by
          rcases List.mem_cons.mp hp with rfl | hp
          · exact ⟨heI, Ne.symm hIL, hI₀⟩
          · rcases List.mem_cons.mp hp with rfl | hp
            · exact ⟨heC, hCL, hC₀⟩
            · have z := N₂ p hp
              refine ⟨old3 _ _ ?_ z.1, z.2⟩
              rcases List.mem_cons.mp hp with rfl | hp
              · exact hDC
              · exact (off3 p hp).2.1
        refine wpAny_mono (R i x t1 t2 t3 I oI H2.objs.size oC s₂.heap.objs.size _ ys h₃ _ _ hx hA hoC (by simp [hab, hac]) (by simp [hbc]) (by simp) F₃ N₃ (Off3.of off3) ⟨hCI, hDI, Ne.symm hDC⟩) (fun ok s₃ h₃' => ?_) fun _ _ e => e
        have iter' : ∀ {h : Heap}, h.get? I = some oI → h.IsListIter I Dp (i + 1) := fun e => ⟨oI, e, hcI, hdI⟩
        cases ok with
        | false =>
          simp only [Bool.false_eq_true, if_false] at h₃' ⊢
          obtain ⟨h₄, tk₄, rfl, F₄, N₄, hA'⟩ := h₃'
          exact ⟨us.length + 1 - (i + 1), by omega, h₄, tk₄, i + 1, ys, _, rfl, hlt, rfl, hA', iter' (N₄ _ (.head _)).1, F₄, hoC.ns (N₄ _ (.tail _ (.head _))).1, fun p hp => N₄ p (.tail _ (.tail _ hp))⟩
        | true =>
          simp only [if_true] at h₃' ⊢
          refine wpAny_mono h₃' (fun y s₄ h₄' => ?_) fun _ _ e => e
          obtain ⟨h₄, tk₄, rfl, F₄, N₄, hA'⟩ := h₄'
          have zI := (N₄ (I, oI) (.head _)).1
          have zC := (N₄ (H2.objs.size, oC) (.tail _ (.head _))).1
          have zD := (N₄ (s₂.heap.objs.size, lst ys) (.tail _ (.tail _ (.head _)))).1
          have hyl := hlen _ _ hA
          refine append_at (hsz := by show ys.toArray.size ≤ sizeLine; rw [List.size_toArray]; omega) zD fun h₅ hs₅ hD₅ => ?_
          refine ⟨us.length + 1 - (i + 1), by omega, h₅, tk₄, i + 1, ys ++ [y], _, rfl, hlt, rfl, hA', iter' (hs₅.extBut I oI hDI zI), F₄.change hs₅ hDL hD₀, (hoC.ns zC).sameBut hs₅ (Ne.symm hDC), fun p hp => ?_⟩
          rcases List.mem_cons.mp hp with rfl | hp
          · exact ⟨hD₅.trans (congrArg some (lst_snoc ys y)), hDL, hD₀⟩
          · exact ⟨hs₅.extBut _ _ (off3 p hp).2.2 (N₄ p (.tail _ (.tail _ (.tail _ hp)))).1, (N₄ p (.tail _ (.tail _ (.tail _ hp)))).2⟩
      · obtain rfl : i = us.length := Nat.le_antisymm hi (Nat.not_lt.mp hlt)
        refine W.done _ _ _ (by rw [hus]; exact st') fun h₂ tk₂ hk₂ => ?_
        exact hRR _ _ h₂ tk₂ _ ys (fr_but F' hk₂ hIL hI₀) (news_but N' hk₂ fun p hp => by
          rcases List.mem_cons.mp hp with rfl | hp
          · exact Ne.symm hDI
          · exact off p hp) ltD (hn'.at' fun o e => hk₂ _ o (by simpa using Ne.symm hCI) e) hC₀ hD₀ hCL hDL (Ne.symm hDC) (fun p hp => (off3 p hp).2.1) hA
    · rcases List.mem_cons.mp hp with rfl | hp
      · exact ⟨hacc, hDL, hD₀⟩
      · exact ⟨old _ _ (N p hp).1, (N p hp).2⟩
  exact codeAny_compStart_list (loop _ rfl) (W.self 0 _ _ _ ⟨hit₁, lis (fun p hp => ⟨old _ _ (N p hp).1, (N p hp).2⟩ : News h₀ L h₁ news) fun _ h => h⟩ (loop _ rfl))
end
end Mine

namespace Mine
open PySem.Calls PySem.Spec PyProof.Rows.LCg
theorem acc_row {rs : List (Int × Int × Int)} {i : Nat} {x : Int × Int × Int} {ys : List Value} {t : Tok} (hx : rs[i]? = some x) (h : IntsAre ys ((rs.take i).map (·.1))) : IntsAre (ys ++ [.int x.1 t]) ((rs.take (i + 1)).map (·.1)) := by
  rw [List.take_add_one, hx, List.map_append]
  exact IntsAre.append h (.cons _ _ .nil)
section
variable {prog : Program} {w : World} {A : Around} {E : Value → Shared → Prop} {s : Shared} {h₀ : Heap} {L : Addr} {m : Str → Option Value} {env : Env}
theorem comp3 {elt iter : Expr} {ifs : List Expr} {a b c : Str} {pa pb pc tp : Pos} {kk} {scope : Scope} {cl : List (Str × Addr)} {pos : Pos} {Q : Value → Shared → Prop} {Dp : Addr} {us : List Value} {rs : List (Int × Int × Int)} {cnt : Nat} {news : List (Addr × Obj)} (Acc : Nat → List Value → Prop)
    (F : Fr h₀ L s.heap m) (N : News h₀ L s.heap news) (hh : A.handled = none)
    (hclos : closureFor scope env = pure cl) (hcell : ∀ y ∈ scope.names, y.2 ≠ .cell) (hkind : scope.kind = .function)
    (hnames : ∀ y ∈ scope.names, y.2 = .local → scope.names.lookup y.1 = some .local) (hxa : scope.names.lookup a = some .local) (hxb : scope.names.lookup b = some .local) (hxc : scope.names.lookup c = some .local) (hab : a ≠ b) (hac : a ≠ c) (hbc : b ≠ c)
    (hiter : ∀ Q' : Value → Shared → Prop, Q' (.ref Dp) s → wpAny (model prog w) A (eval iter env) Q' E s)
    (hm : (Dp, listOf us.toArray cnt) ∈ news) (hTr : Trip news us rs) (hsz : us.length ≤ sizeLine) (hlen : ∀ i ys, Acc i ys → ys.length ≤ i) (acc0 : Acc 0 [])
    (R : ∀ g : Heap, C3Turn prog w A h₀ L m env elt ifs a b c scope cl news rs Acc { s with heap := g })
    (fin : ∀ (D : Addr) (ys : List Value) (h : Heap) (tk : Nat), Fr h₀ L h m → News h₀ L h ((D, lst ys) :: news) → (∀ p ∈ news, p.1 < D) → Acc us.length ys → Q (.ref D) { s with heap := h, toks := tk })
    (hs : ∀ x, foldedSetIterable iter env x = pure x := by intro _; rfl) :
    wpAny (model prog w) A (eval (.ListComp elt [⟨.Tuple [.Name a pa, .Name b pb, .Name c pc] kk tp, iter, ifs, 0⟩] scope pos) env) Q E s := by
  rw [eval_ListComp]
  refine wpAny_comprehension_free (use := none) rfl hs hclos hkind hnames (hiter _ ?_)
  have hl : s.heap.IsList Dp us.toArray := ⟨_, (N _ hm).1, rfl, cnt, rfl⟩
  have hlt : Dp < s.heap.objs.size := Heap.lt_size (N _ hm).1
  refine wpAny_pyIter_list hl ?_
  have up : ∀ b o, s.heap.get? b = some o → (s.heap.push { cls := .type "list_iterator", data := .fields #[.ref Dp, .int 0 0] }).get? b = some o := fun b o e => Heap.get?_push_of_some _ e
  refine block3 (Acc := Acc) hsz hlen hcell hkind hxa hxb hxc hab hac hbc hh ⟨_, Heap.get?_push_size _ rfl, rfl, rfl⟩ hm hTr (F.keeps up) (N.grown up) (Nat.ne_of_lt F.ns.lt) (next_is_new F) (fun p hp => Nat.ne_of_lt (Heap.lt_size (N p hp).1)) acc0 (R _) ?_
  intro D C h tk m' ys F' N' lD hn hC₀ hD₀ hCL hDL hCD offC hA
  refine ⟨m', hn, fun h'' hs'' => fin D ys h'' tk (F'.change hs'' hCL hC₀) (fun p hp => ?_) lD hA⟩
  refine ⟨hs''.extBut _ _ ?_ (N' p hp).1, (N' p hp).2⟩
  rcases List.mem_cons.mp hp with rfl | hp
  · exact Ne.symm hCD
  · exact offC p hp
theorem assign3 {elt iter : Expr} {ifs : List Expr} {a b c y : Str} {pa pb pc tp py : Pos} {kk} {scope : Scope} {cl : List (Str × Addr)} {pos spos : Pos} {Q : Flow → Shared → Prop} {Dp : Addr} {us : List Value} {rs : List (Int × Int × Int)} {cnt : Nat} {news : List (Addr × Obj)} (Acc : Nat → List Value → Prop)
    (F : Fr h₀ L s.heap m) (N : News h₀ L s.heap news) (hh : A.handled = none) (hLe : env.locals = L)
    (hsw : swapsWith (.ListComp elt [⟨.Tuple [.Name a pa, .Name b pb, .Name c pc] kk tp, iter, ifs, 0⟩] scope pos) (some (.Name y py)) spos.line env = pure true)
    (hclos : closureFor scope env = pure cl) (hcell : ∀ y ∈ scope.names, y.2 ≠ .cell) (hkind : scope.kind = .function)
    (hnames : ∀ y ∈ scope.names, y.2 = .local → scope.names.lookup y.1 = some .local) (hxa : scope.names.lookup a = some .local) (hxb : scope.names.lookup b = some .local) (hxc : scope.names.lookup c = some .local) (hab : a ≠ b) (hac : a ≠ c) (hbc : b ≠ c)
    (hy : env.kindOf y = some .local) (hp : (env.scope.kind == .class || (env.scope.kind == .module && env.locals != env.globals)) = false)
    (hiter : ∀ Q' : Value → Shared → Prop, Q' (.ref Dp) s → wpAny (model prog w) A (eval iter env) Q' E s)
    (hm : (Dp, listOf us.toArray cnt) ∈ news) (hTr : Trip news us rs) (hsz : us.length ≤ sizeLine) (hlen : ∀ i ys, Acc i ys → ys.length ≤ i) (acc0 : Acc 0 [])
    (R : ∀ g : Heap, C3Turn prog w A h₀ L m env elt ifs a b c scope cl news rs Acc { s with heap := g })
    (fin : ∀ (D : Addr) (ys : List Value) (h : Heap) (tk : Nat), Fr h₀ L h (fun z => if z = y then some (.ref D) else m z) → News h₀ L h ((D, lst ys) :: news) → (∀ p ∈ news, p.1 < D) → Acc us.length ys → Q .next { s with heap := h, toks := tk })
    (hs : ∀ x, foldedSetIterable iter env x = pure x := by intro _; rfl) :
    wpAny (model prog w) A (exec (.Assign [.Name y py] (.ListComp elt [⟨.Tuple [.Name a pa, .Name b pb, .Name c pc] kk tp, iter, ifs, 0⟩] scope pos) spos) env) Q E s := by
  subst hLe
  rw [exec_Assign_Name_used _ _ _ _ hsw]
  refine wpAny_bind (wpAny_standAt (wpAny_bind ?_))
  show wpAny _ A (do let _ ← comprehension (.ListComp elt [⟨.Tuple [.Name a pa, .Name b pb, .Name c pc] kk tp, iter, ifs, 0⟩] scope pos) scope env _ (newList []) false (eval iter env) (some (assign (.Name y py) env))) _ _ s
  refine wpAny_bind (wpAny_mono (wpAny_comprehension_free (use := some (assign (.Name y py) env)) (Q := fun _ s' => Q .next s') rfl hs hclos hkind hnames
    (hiter _ ?_)) (fun _ s' hq => wpAny_pure (wpAny_pure hq)) fun _ _ e => e)
  have hl : s.heap.IsList Dp us.toArray := ⟨_, (N _ hm).1, rfl, cnt, rfl⟩
  have hlt : Dp < s.heap.objs.size := Heap.lt_size (N _ hm).1
  refine wpAny_pyIter_list hl ?_
  have up : ∀ b o, s.heap.get? b = some o → (s.heap.push { cls := .type "list_iterator", data := .fields #[.ref Dp, .int 0 0] }).get? b = some o := fun b o e => Heap.get?_push_of_some _ e
  refine block3 (Acc := Acc) hsz hlen hcell hkind hxa hxb hxc hab hac hbc hh ⟨_, Heap.get?_push_size _ rfl, rfl, rfl⟩ hm hTr (F.keeps up) (N.grown up) (Nat.ne_of_lt F.ns.lt) (next_is_new F) (fun p hp => Nat.ne_of_lt (Heap.lt_size (N p hp).1)) acc0 (R _) ?_
  intro D C h' tk m' ys F' N' lD hn hC₀ hD₀ hCL hDL hCD offC hA
  show wpAny _ A (assign (.Name y py) env (.ref D)) _ _ _
  refine wpAny_assign_Name (wpAny_storeName_local hy F'.ns (fun h₂ hn₂ hs₂ => ?_) hp)
  have hL₀ : h₀.get? env.locals = none := Heap.get?_none_of_le F'.above
  have F₂ : Fr h₀ env.locals h₂ (fun z => if z = y then some (.ref D) else m z) := ⟨hn₂, fun b o e => hs₂.extBut b o (fun q => by rw [q, hL₀] at e; cases e) (F'.keep b o e), F'.above⟩
  refine ⟨m', hn.sameBut hs₂ hCL, fun h'' hs'' => fin D ys h'' _ (F₂.change hs'' hCL hC₀) (fun p hp => ?_) lD hA⟩
  have z : h₂.get? p.1 = some p.2 := hs₂.extBut _ _ (N' p hp).2.1 (N' p hp).1
  refine ⟨hs''.extBut _ _ ?_ z, (N' p hp).2⟩
  rcases List.mem_cons.mp hp with rfl | hp
  · exact Ne.symm hCD
  · exact offC p hp
end
end Mine

namespace Mine
open PySem.Calls PySem.Spec PyProof.Rows.LCg
theorem okNum_back {N W : Int} (K : OkNum N W) : okNum N W = true := by
  obtain ⟨h1, h2, h3, h4, h5, h6⟩ := K
  unfold okNum
  simp only [Bool.and_eq_true, decide_eq_true_eq, List.all_eq_true, List.mem_range, Bool.or_eq_true, beq_iff_eq]
  refine ⟨⟨h1, h2, h3, h4, h5⟩, fun i hi => ?_⟩
  have t := h6 i (by omega)
  exact ⟨⟨t.a1, t.a2, t.b1, t.b2, t.c1, t.c2, t.d1, t.d2, t.r0, t.e1, t.e2, t.p1, t.p2⟩, or_assoc.mpr t.st⟩
structure OkLaw (N W : Int) : Prop where
  first : (lawP N W).getD 0 0 = W
  last : (lawP N W).getD (per N W) 0 = 2 * W
  rev : (lawM N W).reverse = lawM N W
  mlen : (lawM N W).length = per N W - 1
  ends : ((lawT N W).getD (per N W) (0, 0, 0)).2 = ((lawT N W).getD 0 (0, 0, 0)).2
  all : ∀ x ∈ lawT N W, 0 < x.2.1 ∧ x.2.1 ≤ W ∧ 0 < x.2.2 ∧ x.2.2 ≤ 2 * W
  eqs : ∀ i < per N W, (conv 1 W (lawM N W) (per N W - 1)).getD (i + 1) 0 ^ 2 - N * (conv 0 1 (lawM N W) (per N W - 1)).getD (i + 1) 0 ^ 2 = ((lawT N W).getD i (0, 0, 0)).2.2 * (1 - 2 * ((i + 1 : Nat) : Int).fmod 2)
  pell1 : ((conv 1 W (lawM N W) (per N W - 1)).getD (per N W) 0 * (conv 1 W (lawM N W) (per N W - 1)).getD (per N W) 0 - N * (conv 0 1 (lawM N W) (per N W - 1)).getD (per N W) 0 * (conv 0 1 (lawM N W) (per N W - 1)).getD (per N W) 0).natAbs = 1
  pell2 : ((conv 1 W (lawM N W) (per N W - 1)).getD (per N W) 0 * (conv 1 W (lawM N W) (per N W - 1)).getD (per N W) 0 + N * (conv 0 1 (lawM N W) (per N W - 1)).getD (per N W) 0 * (conv 0 1 (lawM N W) (per N W - 1)).getD (per N W) 0) ^ 2 - N * (2 * (conv 1 W (lawM N W) (per N W - 1)).getD (per N W) 0 * (conv 0 1 (lawM N W) (per N W - 1)).getD (per N W) 0) ^ 2 = 1
theorem law_of {N W : Int} (K : OkNum N W) (h0 : 0 < N) (h1 : N < 48) : OkLaw N W := by
  have ok := okNum_back K
  have w1 := K.w1
  have w6 := K.w6
  obtain ⟨n, rfl⟩ := Int.eq_ofNat_of_zero_le (by omega : 0 ≤ N)
  obtain ⟨w, rfl⟩ := Int.eq_ofNat_of_zero_le (by omega : 0 ≤ W)
  have h := okLaw_all n (by omega) w (by omega) ok
  unfold okLaw at h
  simp only [Bool.and_eq_true, decide_eq_true_eq, List.all_eq_true, List.mem_range] at h
  obtain ⟨⟨⟨⟨a1, a2, a3, a4, a5⟩, a6⟩, a7⟩, a8, a9⟩ := h
  exact ⟨a1, a2, a3, a4, a5, a6, a7, a8, a9⟩
theorem lawP_length (N W : Int) : (lawP N W).length = per N W + 1 := by rw [lawP, List.length_map, lawT, tabN_length]
section
variable {prog : Program} {w : World} {A : Around} {E : Value → Shared → Prop} {s : Shared} {h₀ : Heap} {L l : Addr} {m : Str → Option Value} {news : List (Addr × Obj)} {value slice : PySem.Expr} {vs ws : List Value} {ns ms : List Int} {c : Nat} {Q : Value → Shared → Prop} {ops : List Value}
theorem mid_use {N W : Int} {t u : Tok} (F : Fr h₀ L s.heap m) (N9 : News h₀ L s.heap news) (hm : (l, listOf vs.toArray c) ∈ news) (hi : IntsAre vs (lawP N W)) (k8 : per N W ≤ 8)
    (h : ∀ D ws h', Fr h₀ L h' m → News h₀ L h' ((D, listOf (List.toArray ws) 0) :: news) → AllLt D news → IntsAre ws (lawM N W) → Q (.ref D) { s with heap := h' })
    (hs : subscripted slice false (.ref l) (.ref s.heap.objs.size) = operate [.ref s.heap.objs.size, .ref l] (getItem (.ref l) (.ref s.heap.objs.size))) (ht : ∀ r, letTemporaryGo value (.ref l) r = pure ()) :
    wpAny (model prog w) A (subscriptTail value slice (.ref l) (.ref s.heap.objs.size)) Q E { s with heap := s.heap.push { cls := .type "slice", data := .fields #[.int 1 t, .int (-1) u, .none] } } := by
  have hl : s.heap.IsList l vs.toArray := ⟨_, (N9 _ hm).1, rfl, c, rfl⟩
  have e : IntsAre (slicePick vs.toArray (some 1) (some (-1)) none).toList (lawM N W) := by
    have z := kmk_run_neg (x := 1) (y := -1) hi (by decide) (by decide)
    rw [lawP_length] at z
    exact z
  refine kmk_slice_ints F N9 hl (.int _ _) (.int _ _) hi e rfl (fun D ws h' F' N' l1 hI _ _ => h D ws h' F' N' (allLt_of l1) hI) hs ht ?_
  rw [List.size_toArray, hi.length, lawP_length, sizeLine_eq]
  omega
theorem revs_use {H : Heap} {g : _} {d : _} {tk : Nat} {o : _} {t : Tok} {pos : Pos} {py : Expr} (F : Fr h₀ L H m) (N9 : News h₀ L H news) (hm : (l, listOf vs.toArray c) ∈ news) (hi : IntsAre vs ns) (k8 : ns.length ≤ 8)
    (h : ∀ D ws h', Fr h₀ L h' m → News h₀ L h' ((D, listOf (List.toArray ws) 0) :: news) → AllLt D news → IntsAre ws ns.reverse → Q (.ref D) ⟨h', g, d, tk, o⟩) :
    wpAny (model prog w) A (subscriptTail value (.Slice none none (some py) pos) (.ref l) (.ref H.objs.size)) Q E ⟨H.push { cls := .type "slice", data := .fields #[.none, .none, .int (-1) t] }, g, d, tk, o⟩ :=
  kba_turn (value' := PySem.Expr.Name (PySem.Str.ofString "_") ⟨0, 0, 0, 0⟩) (fun _ => rfl)
    (krv_ints (s := ⟨H, g, d, tk, o⟩) F N9 ⟨_, (N9 _ hm).1, rfl, c, rfl⟩ (.int _ _) hi (fun D ws h' F' N' l1 hI _ => h D ws h' F' N' (allLt_of l1) hI) rfl (fun _ => rfl) (by rw [List.size_toArray, hi.length, sizeLine_eq]; omega))
theorem ne_use {a b : Addr} {c' : Nat} (N9 : News h₀ L s.heap news) (ha : (a, listOf vs.toArray c) ∈ news) (hb : (b, listOf ws.toArray c') ∈ news) (hi : IntsAre vs ns) (hj : IntsAre ws ms) (hu : A.units + 64 < cLine) (e : ns = ms) (h : Q (.bool false) s) :
    wpAny (model prog w) A (compareOp .NotEq (.ref a) (.ref b)) Q E s :=
  ke_ne_ints ⟨_, (N9 _ ha).1, rfl, c, rfl⟩ ⟨_, (N9 _ hb).1, rfl, c', rfl⟩ hi hj hu (by rw [decide_eq_true e]; exact h)
theorem part_k {N W : Int} {tups : List (Addr × Obj)} {us : List Value} {k : Int} {u : Tok} (hTr : Trip tups us (lawT N W)) (N9 : News h₀ L s.heap news) (hm : (l, listOf us.toArray c) ∈ news) (hsub : ∀ p ∈ tups, p ∈ news) (h0 : 0 ≤ k) (h1 : k ≤ per N W) (k8 : per N W ≤ 8)
    (h : ∀ a t1 t2 t3, News h₀ L s.heap ((a, tup3 ((lawT N W).getD k.toNat (0, 0, 0)) t1 t2 t3) :: news) → Q (.ref a) s)
    (hs : subscripted slice false (.ref l) (.int k u) = operate [.ref l, .int k u] (getItem (.ref l) (.int k u)) := by with_unfolding_all rfl) (hg : ∀ r, letTemporaryGo value (.ref l) r = pure () := by intro _; with_unfolding_all rfl) :
    wpAny (model prog w) A (subscriptTail value slice (.ref l) (.int k u)) Q E s := by
  have hlen : us.length = per N W + 1 := by rw [hTr.length, lawT, tabN_length]
  have hi : k.toNat < us.length := by omega
  obtain ⟨a, x, t1, t2, t3, e1, e2, e3⟩ := hTr.get (List.getElem?_eq_getElem hi)
  have ex : (lawT N W).getD k.toNat (0, 0, 0) = x := by rw [List.getD_eq_getElem?_getD, e2]; rfl
  refine kim_list N9 hm rfl rfl h0 (by omega) (x := .ref a) (by rw [List.getElem?_eq_getElem hi, e1]) ?_ hs hg
  refine h a t1 t2 t3 fun p hp => ?_
  rcases List.mem_cons.mp hp with rfl | hp
  · rw [ex]; exact N9 _ (hsub _ e3)
  · exact N9 p hp
theorem part_last {N W : Int} {tups : List (Addr × Obj)} {us : List Value} {u : Tok} (hTr : Trip tups us (lawT N W)) (N9 : News h₀ L s.heap news) (hm : (l, listOf us.toArray c) ∈ news) (hsub : ∀ p ∈ tups, p ∈ news) (k8 : per N W ≤ 8)
    (h : ∀ a t1 t2 t3, News h₀ L s.heap ((a, tup3 ((lawT N W).getD (per N W) (0, 0, 0)) t1 t2 t3) :: news) → Q (.ref a) s)
    (hs : subscripted slice false (.ref l) (.int (-1) u) = operate [.ref l, .int (-1) u] (getItem (.ref l) (.int (-1) u)) := by with_unfolding_all rfl) (hg : ∀ r, letTemporaryGo value (.ref l) r = pure () := by intro _; with_unfolding_all rfl) :
    wpAny (model prog w) A (subscriptTail value slice (.ref l) (.int (-1) u)) Q E s := by
  have hlen : us.length = per N W + 1 := by rw [hTr.length, lawT, tabN_length]
  have hi : per N W < us.length := by omega
  obtain ⟨a, x, t1, t2, t3, e1, e2, e3⟩ := hTr.get (List.getElem?_eq_getElem hi)
  have ex : (lawT N W).getD (per N W) (0, 0, 0) = x := by rw [List.getD_eq_getElem?_getD, e2]; rfl
  refine kim_back N9 hm rfl rfl (by decide) (by omega) (by decide) (x := .ref a) ?_ ?_ hs hg
  · rw [hlen, show (-1 + ((per N W + 1 : Nat) : Int)).toNat = per N W by omega, List.getElem?_eq_getElem hi, e1]
  refine h a t1 t2 t3 fun p hp => ?_
  rcases List.mem_cons.mp hp with rfl | hp
  · rw [ex]; exact N9 _ (hsub _ e3)
  · exact N9 p hp
theorem cut_use {H : Heap} {g : _} {d : _} {tk : Nat} {o : _} {t : Tok} {x : Int × Int × Int} {t1 t2 t3 : Tok} {pos : Pos} {py : Expr} (F : Fr h₀ L H m) (N9 : News h₀ L H news) (hm : (l, tup3 x t1 t2 t3) ∈ news)
    (h : ∀ D h', Fr h₀ L h' m → News h₀ L h' ((D, tup2 x.2.1 x.2.2 t2 t3) :: news) → AllLt D news → Q (.ref D) ⟨h', g, d, tk, o⟩) :
    wpAny (model prog w) A (subscriptTail value (.Slice (some py) none none pos) (.ref l) (.ref H.objs.size)) Q E ⟨H.push { cls := .type "slice", data := .fields #[.int 1 t, .none, .none] }, g, d, tk, o⟩ :=
  kba_turn (value' := PySem.Expr.Name (PySem.Str.ofString "_") ⟨0, 0, 0, 0⟩) (fun _ => rfl)
    (slice_tuple_from (s := ⟨H, g, d, tk, o⟩) (a := 1) (items := #[.int x.1 t1, .int x.2.1 t2, .int x.2.2 t3]) F N9 ⟨_, (N9 _ hm).1, rfl, _, rfl⟩ (Nat.le_refl _) (show 1 ≤ 3 by decide)
      (fun h' F' N' => h _ h' F' N' (allLt_of fun p hp => Nat.lt_succ_of_lt (Heap.lt_size (N9 p hp).1))) rfl (fun _ => rfl) (by rw [sizeLine_eq]; show 3 ≤ 16777216; decide))
theorem tne_use {a b : Addr} {x1 x2 y1 y2 : Int} {t1 t2 u1 u2 : Tok} (N9 : News h₀ L s.heap news) (ha : (a, tup2 x1 x2 t1 t2) ∈ news) (hb : (b, tup2 y1 y2 u1 u2) ∈ news) (hu : A.units + 64 < cLine) (e1 : x1 = y1) (e2 : x2 = y2) (h : Q (.bool false) s) :
    wpAny (model prog w) A (compareOp .NotEq (.ref a) (.ref b)) Q E s := by
  subst e1 e2
  exact ne_dataH (reads_tuple_at (vs := #[.int x1 t1, .int x2 t2]) (xs := [.int x1, .int x2]) (N9 _ ha).1 rfl rfl (.cons (.int _ _) (.cons (.int _ _) .nil))) (reads_tuple_at (vs := #[.int x1 u1, .int x2 u2]) (xs := [.int x1, .int x2]) (N9 _ hb).1 rfl rfl (.cons (.int _ _) (.cons (.int _ _) .nil))) rfl rfl hu
    (by simpa [PyData.eqv, PyData.eqvAll] using h)
end
end Mine

namespace Mine
open PySem.Calls PySem.Spec PyProof.Rows.LCg
theorem conv_next {x0 x1 d : Int} {M : List Int} {i : Nat} {ts : List Value} {t : Tok} {v : Int} (hd : M[i]? = some d) (h : IntsAre ts (conv x0 x1 M i))
    (e : v = d * (conv x0 x1 M i).getD (-1 + ((conv x0 x1 M i).length : Int)).toNat 0 + (conv x0 x1 M i).getD (-2 + ((conv x0 x1 M i).length : Int)).toNat 0) : IntsAre (ts ++ [.int v t]) (conv x0 x1 M (i + 1)) := by
  rw [conv_length, show (-1 + ((i + 2 : Nat) : Int)).toNat = i + 1 by omega, show (-2 + ((i + 2 : Nat) : Int)).toNat = i by omega] at e
  have em : M.getD i 0 = d := by rw [List.getD_eq_getElem?_getD, hd]; rfl
  show IntsAre _ (conv x0 x1 M i ++ [M.getD i 0 * (conv x0 x1 M i).getD (i + 1) 0 + (conv x0 x1 M i).getD i 0])
  rw [em, ← e]
  exact IntsAre.append h (.cons _ _ .nil)
theorem led_clean {h₀ h : Heap} {L a lo to : Addr} {oa oL oT : Obj} {x1 x2 x3 x4 x5 x6 x7 x8 x9 : Addr × Obj} {R : List (Addr × Obj)} (N : News h₀ L h ((a, oa) :: (lo, oL) :: (to, oT) :: x1 :: x2 :: x3 :: x4 :: x5 :: x6 :: x7 :: x8 :: x9 :: R))
    (z2 : AllLt lo ((to, oT) :: x1 :: x2 :: x3 :: x4 :: x5 :: x6 :: x7 :: x8 :: x9 :: R)) (z3 : AllLt to (x1 :: x2 :: x3 :: x4 :: x5 :: x6 :: x7 :: x8 :: x9 :: R)) :
    News h₀ L h ((to, oT) :: (lo, oL) :: R) ∧ (@LT.lt Nat _ to lo) ∧ AllLt lo R ∧ AllLt to R := by
  refine ⟨fun p hp => N p ?_, ?_, allLt_sub z2 ?_, allLt_sub z3 ?_⟩
  · simp only [List.mem_cons] at hp ⊢; grind
  · exact kst_ltOf z2 (to, oT) (.head _)
  · intro p hp; simp only [List.mem_cons]; grind
  · intro p hp; simp only [List.mem_cons]; grind
section
variable {prog : Program} {w : World} {A : Around} {E : Value → Shared → Prop} {s : Shared} {env : Env} {h₀ : Heap} {body : List Stmt} {Q : Flow → Shared → Prop}
def MidEnd (h₀ : Heap) (L Dm Dt Dw : Addr) (om : Obj) (R own : List (Addr × Obj)) (m₀ : Str → Option Value) (x1 : Int) (M : List Int) (i : Nat) (s₁ s₂ : Shared) : Prop :=
  ∃ (h' : Heap) (tk : Nat) (m' : Str → Option Value) (ts ls : List Value) (ct cl : Nat), s₂ = { s₁ with heap := h', toks := tk } ∧ Fr h₀ L h' m' ∧ News h₀ L h' ((Dm, om) :: (Dt, listOf ts.toArray ct) :: (Dw, listOf ls.toArray cl) :: (R ++ own)) ∧
    IntsAre ts (conv 1 x1 M i) ∧ IntsAre ls (conv 0 1 M i) ∧ ∀ z, z ≠ Str.ofString "part" → m' z = m₀ z
theorem mid_map {m₁ m₀ : Str → Option Value} {v : Value} (h : ∀ z, z ≠ Str.ofString "part" → m₁ z = m₀ z) : (fun y => if y = Str.ofString "part" then some v else m₁ y) = fun y => if y = Str.ofString "part" then some v else m₀ y := by
  funext y
  by_cases e : y = Str.ofString "part"
  · simp [e]
  · rw [if_neg e, if_neg e]; exact h y e
theorem mid_map0 {m₁ m₀ : Str → Option Value} (h : ∀ z, z ≠ Str.ofString "part" → m₁ z = m₀ z) : m₁ = fun y => if y = Str.ofString "part" then m₁ y else m₀ y := by
  funext y
  by_cases e : y = Str.ofString "part"
  · rw [if_pos e]
  · rw [if_neg e]; exact h y e
theorem mid_loop {Dm Dt Dw : Addr} {ws ts₀ ls₀ : List Value} {M : List Int} {x1 : Int} {cm ct₀ cl₀ : Nat} {R : List (Addr × Obj)} {m₀ : Str → Option Value}
    (hh : A.handled = none) (F : Fr h₀ env.locals s.heap m₀) (N : News h₀ env.locals s.heap ((Dm, listOf ws.toArray cm) :: (Dt, listOf ts₀.toArray ct₀) :: (Dw, listOf ls₀.toArray cl₀) :: R)) (hw : IntsAre ws M)
    (ht0 : IntsAre ts₀ [1, x1]) (hl0 : IntsAre ls₀ [0, 1])
    (turn : ∀ (i : Nat) (d : Int) (t : Tok) (ts ls : List Value) (ct cl : Nat) (own : List (Addr × Obj)) (h : Heap) (tk : Nat), i < M.length → M[i]? = some d → IntsAre ts (conv 1 x1 M i) → IntsAre ls (conv 0 1 M i) →
      (∀ p ∈ own, p.1 ≠ Dt ∧ p.1 ≠ Dw) →
      Fr h₀ env.locals h (fun y => if y = Str.ofString "part" then some (.int d t) else m₀ y) →
      News h₀ env.locals h ((Dm, listOf ws.toArray cm) :: (Dt, listOf ts.toArray ct) :: (Dw, listOf ls.toArray cl) :: (R ++ own)) →
      wpAny (model prog w) A (execs body env) (RevPost (MidEnd h₀ env.locals Dm Dt Dw (listOf ws.toArray cm) R own m₀ x1 M (i + 1) { s with heap := h, toks := tk }) Q) E { s with heap := h, toks := tk })
    (done : ∀ (ts ls : List Value) (ct cl : Nat) (u : Str → Option Value) (h : Heap) (tk : Nat), IntsAre ts (conv 1 x1 M M.length) → IntsAre ls (conv 0 1 M M.length) → Fr h₀ env.locals h (fun y => if y = Str.ofString "part" then u y else m₀ y) →
      News h₀ env.locals h ((Dm, listOf ws.toArray cm) :: (Dt, listOf ts.toArray ct) :: (Dw, listOf ls.toArray cl) :: R) → Q .next { s with heap := h, toks := tk }) :
    wpAny (model prog w) A (pyIter (.ref Dm)) (fun it s₂ => LoopAtV prog w A h₀ env (Str.ofString "part") body Q E it s₂) E s := by
  refine kdl_iter (nn := cm) (vs := ws) (fun i m nx => ∃ (ts ls : List Value) (ct cl : Nat), nx = (Dm, listOf ws.toArray cm) :: (Dt, listOf ts.toArray ct) :: (Dw, listOf ls.toArray cl) :: R ∧ IntsAre ts (conv 1 x1 M i) ∧ IntsAre ls (conv 0 1 M i) ∧ ∀ z, z ≠ Str.ofString "part" → m z = m₀ z)
    hh (.head _) F N ⟨ts₀, ls₀, ct₀, cl₀, rfl, ht0, hl0, fun _ _ => rfl⟩ ?_ ?_
  · rintro i x m₁ nx h tk own hx hoff _ ⟨ts, ls, ct, cl, rfl, hi1, hi2, hm⟩ F' N'
    obtain ⟨k, t, rfl, hk⟩ := IntsAre.at hw i x hx
    rw [mid_map hm] at F'
    have a2 : ∀ p ∈ own, p.1 ≠ Dt := fun p hp => hoff p hp Dt (.tail _ (.head _))
    have a3 : ∀ p ∈ own, p.1 ≠ Dw := fun p hp => hoff p hp Dw (.tail _ (.tail _ (.head _)))
    have hlt : i < M.length := by rw [← hw.length]; exact (List.getElem?_eq_some_iff.mp hx).1
    have N2 : News h₀ env.locals h ((Dm, listOf ws.toArray cm) :: (Dt, listOf ts.toArray ct) :: (Dw, listOf ls.toArray cl) :: (R ++ own)) := fun p hp => N' p (by simp only [List.mem_cons, List.mem_append] at hp ⊢; grind)
    refine wpAny_mono (turn i k t ts ls ct cl own h tk hlt hk hi1 hi2 (fun p hp => ⟨a2 p hp, a3 p hp⟩) F' N2) (fun f s₂ p => ?_) fun _ _ e => e
    have fin : MidEnd h₀ env.locals Dm Dt Dw (listOf ws.toArray cm) R own m₀ x1 M (i + 1) { s with heap := h, toks := tk } s₂ →
        InvEndG h₀ env.locals (fun m' nx => (Dm, listOf ws.toArray cm) ∈ nx ∧ ∃ (ts ls : List Value) (ct cl : Nat), nx = (Dm, listOf ws.toArray cm) :: (Dt, listOf ts.toArray ct) :: (Dw, listOf ls.toArray cl) :: R ∧ IntsAre ts (conv 1 x1 M (i + 1)) ∧ IntsAre ls (conv 0 1 M (i + 1)) ∧ ∀ z, z ≠ Str.ofString "part" → m' z = m₀ z) own { s with heap := h, toks := tk } s₂ := by
      rintro ⟨h', tk', m', ts', ls', ct', cl', e, F₁, N₁, g1, g2, g3⟩
      refine ⟨h', tk', m', _, (Dm, listOf ws.toArray cm) :: (Dt, listOf ts'.toArray ct') :: (Dw, listOf ls'.toArray cl') :: R, e, F₁, N₁, ?_, ?_, ?_, .head _, ts', ls', ct', cl', rfl, g1, g2, g3⟩
      · intro p hp; simp only [List.mem_cons, List.mem_append] at hp ⊢; grind
      · intro p hp; simp only [List.mem_cons, List.mem_append]; grind
      · intro p hp b hb
        exact hoff p hp b (by simpa using hb)
    cases f with
    | ret v => exact p
    | brk => exact p
    | next => exact fin p
    | cont => exact fin p
  · rintro m₁ nx h tk ⟨ts, ls, ct, cl, rfl, hi1, hi2, hm⟩ F' N'
    rw [mid_map0 hm] at F'
    rw [hw.length] at hi1 hi2
    exact done ts ls ct cl m₁ h tk hi1 hi2 F' N'
end
end Mine

namespace Mine
open PySem.Calls PySem.Spec PyProof.Rows.LCg
/-- bounds for the tops and lows -/
def okBd (N W : Int) : Bool :=
  ((lawM N W).all fun d => decide (0 ≤ d ∧ d ≤ 12)) &&
  ((List.range (per N W)).all fun i => ((conv 1 W (lawM N W) i).all fun v => decide (0 ≤ v ∧ v < 100000)) && ((conv 0 1 (lawM N W) i).all fun v => decide (0 ≤ v ∧ v < 100000)))
theorem okBd_all : ∀ n < 48, ∀ w < 7, okNum (n : Nat) (w : Nat) = true → okBd (n : Nat) (w : Nat) = true := by decide +kernel
structure OkBd (N W : Int) : Prop where
  m : ∀ d ∈ lawM N W, 0 ≤ d ∧ d ≤ 12
  tops : ∀ i < per N W, ∀ j, 0 ≤ (conv 1 W (lawM N W) i).getD j 0 ∧ (conv 1 W (lawM N W) i).getD j 0 < 100000
  lows : ∀ i < per N W, ∀ j, 0 ≤ (conv 0 1 (lawM N W) i).getD j 0 ∧ (conv 0 1 (lawM N W) i).getD j 0 < 100000
theorem getD_bd {l : List Int} (h : ∀ v ∈ l, 0 ≤ v ∧ v < 100000) (j : Nat) : 0 ≤ l.getD j 0 ∧ l.getD j 0 < 100000 := by
  rw [List.getD_eq_getElem?_getD]
  cases e : l[j]? with
  | none => exact ⟨Int.le_refl _, by decide⟩
  | some v => exact h v (List.mem_of_getElem? e)
theorem bd_of {N W : Int} (K : OkNum N W) (h0 : 0 < N) (h1 : N < 48) : OkBd N W := by
  have ok := okNum_back K
  have w1 := K.w1
  have w6 := K.w6
  obtain ⟨n, rfl⟩ := Int.eq_ofNat_of_zero_le (by omega : 0 ≤ N)
  obtain ⟨w, rfl⟩ := Int.eq_ofNat_of_zero_le (by omega : 0 ≤ W)
  have h := okBd_all n (by omega) w (by omega) ok
  unfold okBd at h
  simp only [Bool.and_eq_true, decide_eq_true_eq, List.all_eq_true, List.mem_range] at h
  exact ⟨h.1, fun i hi => getD_bd (h.2 i hi).1, fun i hi => getD_bd (h.2 i hi).2⟩
theorem mulOk64 {a b : Int} (ha : a.natAbs < 2 ^ 128) (hb : b.natAbs < 2 ^ 128) : IntMulOk a b :=
  mulOk_of_bits (intBits_le_iff.mpr ha) (intBits_le_iff.mpr hb) (by decide)
theorem grown_of {h₀ h : Heap} {L : Addr} {a b c : Addr × Obj} {tl : List (Addr × Obj)} (N : News h₀ L h (a :: b :: c :: tl)) (hT : Tab tl) : GrownAll [(41, 37), (34, 30)] h := by
  obtain ⟨st, st2, rfl, _, _, _⟩ := hT
  refine ⟨?_, ?_, trivial⟩
  · cases st2 with
    | none => exact ⟨#[], (N (37, tabObj #[]) (by simp [tbL])).1⟩
    | some q => exact ⟨#[rawInt 47, rawInt 4, .ref q.1], (N (37, tabObj #[rawInt 47, rawInt 4, .ref q.1]) (by simp [tbL])).1⟩
  · cases st with
    | none => exact ⟨#[], (N (30, tabObj #[]) (by simp [tbL])).1⟩
    | some q => exact ⟨#[rawInt 32, rawInt 4, .ref q.1], (N (30, tabObj #[rawInt 32, rawInt 4, .ref q.1]) (by simp [tbL])).1⟩
theorem ne_app {d : Addr} {a b : List (Addr × Obj)} (h : AllLt d a) (h2 : ∀ p ∈ b, p.1 ≠ d) : ∀ p ∈ a ++ b, p.1 ≠ d := fun p hp => (List.mem_append.mp hp).elim (fun h' => Nat.ne_of_lt (kst_ltOf h p h')) (h2 p)
theorem pow2_bd {y : Int} (h0 : 0 ≤ y) (h1 : y < 100000) : 0 ≤ y ^ Int.toNat 2 ∧ y ^ Int.toNat 2 < 10000000000 ∧ (y ^ Int.toNat 2).natAbs < 2 ^ 128 := by
  have e : y ^ Int.toNat 2 = y * y := by rw [show Int.toNat 2 = 2 from rfl, Int.pow_succ, Int.pow_succ, Int.pow_zero, Int.one_mul]
  have h2 : y * y ≤ 99999 * 99999 := Int.mul_le_mul (by omega) (by omega) h0 (by decide)
  have h3 : 0 ≤ y * y := Int.mul_nonneg h0 h0
  rw [e]
  omega
theorem pell_bd {n T L : Int} (n0 : 0 < n) (n1 : n < 48) (t0 : 0 ≤ T) (t1 : T < 100000) (l0 : 0 ≤ L) (l1 : L < 100000) :
    (n * L).natAbs < 2 ^ 128 ∧ (T * T + n * L * L).natAbs < 2 ^ 64 ∧ (2 * T * L).natAbs < 2 ^ 64 ∧ ((2 * T * L) ^ Int.toNat 2).natAbs < 2 ^ 128 := by
  have h1 : n * L ≤ 47 * 99999 := Int.mul_le_mul (by omega) (by omega) l0 (by decide)
  have h2 : 0 ≤ n * L := Int.mul_nonneg (by omega) l0
  have h3 : T * T ≤ 99999 * 99999 := Int.mul_le_mul (by omega) (by omega) t0 (by decide)
  have h4 : 0 ≤ T * T := Int.mul_nonneg t0 t0
  have h5 : n * L * L ≤ (47 * 99999) * 99999 := Int.mul_le_mul h1 (by omega) l0 (by decide)
  have h6 : 0 ≤ n * L * L := Int.mul_nonneg h2 l0
  have h7 : 2 * T * L ≤ 199998 * 99999 := Int.mul_le_mul (by omega) (by omega) l0 (by decide)
  have h8 : 0 ≤ 2 * T * L := Int.mul_nonneg (by omega) l0
  refine ⟨by omega, by omega, by omega, ?_⟩
  generalize 2 * T * L = y at *
  have e : y ^ Int.toNat 2 = y * y := by rw [show Int.toNat 2 = 2 from rfl, Int.pow_succ, Int.pow_succ, Int.pow_zero, Int.one_mul]
  have h9 : y * y ≤ (199998 * 99999) * (199998 * 99999) := Int.mul_le_mul h7 h7 h8 (by decide)
  have h10 : 0 ≤ y * y := Int.mul_nonneg h8 h8
  rw [e]
  omega
theorem abs_one {x : Int} (h : x.natAbs = 1) : (if x < 0 then -x else x) = 1 := by split <;> omega
theorem pell_facts {N W : Int} (OL : OkLaw N W) (BD : OkBd N W) (n0 : 0 < N) (n1 : N < 48) (k1 : 1 ≤ per N W) {j1 j2 : Nat} (e1 : j1 = per N W) (e2 : j2 = per N W) :
    (0 ≤ (conv 1 W (lawM N W) (per N W - 1)).getD j1 0 ∧ (conv 1 W (lawM N W) (per N W - 1)).getD j1 0 < 100000 ∧ 0 ≤ (conv 0 1 (lawM N W) (per N W - 1)).getD j2 0 ∧ (conv 0 1 (lawM N W) (per N W - 1)).getD j2 0 < 100000) ∧
    ((N * (conv 0 1 (lawM N W) (per N W - 1)).getD j2 0).natAbs < 2 ^ 128 ∧
     ((conv 1 W (lawM N W) (per N W - 1)).getD j1 0 * (conv 1 W (lawM N W) (per N W - 1)).getD j1 0 + N * (conv 0 1 (lawM N W) (per N W - 1)).getD j2 0 * (conv 0 1 (lawM N W) (per N W - 1)).getD j2 0).natAbs < 2 ^ 64 ∧
     (2 * (conv 1 W (lawM N W) (per N W - 1)).getD j1 0 * (conv 0 1 (lawM N W) (per N W - 1)).getD j2 0).natAbs < 2 ^ 64 ∧
     ((2 * (conv 1 W (lawM N W) (per N W - 1)).getD j1 0 * (conv 0 1 (lawM N W) (per N W - 1)).getD j2 0) ^ Int.toNat 2).natAbs < 2 ^ 128) ∧
    ((if (conv 1 W (lawM N W) (per N W - 1)).getD j1 0 * (conv 1 W (lawM N W) (per N W - 1)).getD j1 0 - N * (conv 0 1 (lawM N W) (per N W - 1)).getD j2 0 * (conv 0 1 (lawM N W) (per N W - 1)).getD j2 0 < 0 then -((conv 1 W (lawM N W) (per N W - 1)).getD j1 0 * (conv 1 W (lawM N W) (per N W - 1)).getD j1 0 - N * (conv 0 1 (lawM N W) (per N W - 1)).getD j2 0 * (conv 0 1 (lawM N W) (per N W - 1)).getD j2 0) else (conv 1 W (lawM N W) (per N W - 1)).getD j1 0 * (conv 1 W (lawM N W) (per N W - 1)).getD j1 0 - N * (conv 0 1 (lawM N W) (per N W - 1)).getD j2 0 * (conv 0 1 (lawM N W) (per N W - 1)).getD j2 0) = 1) ∧
    (((conv 1 W (lawM N W) (per N W - 1)).getD j1 0 * (conv 1 W (lawM N W) (per N W - 1)).getD j1 0 + N * (conv 0 1 (lawM N W) (per N W - 1)).getD j2 0 * (conv 0 1 (lawM N W) (per N W - 1)).getD j2 0) ^ Int.toNat 2 - N * (2 * (conv 1 W (lawM N W) (per N W - 1)).getD j1 0 * (conv 0 1 (lawM N W) (per N W - 1)).getD j2 0) ^ Int.toNat 2 = 1) := by
  subst e1
  rw [e2]
  have ⟨b1, b2⟩ := BD.tops (per N W - 1) (by omega) (per N W)
  have ⟨b3, b4⟩ := BD.lows (per N W - 1) (by omega) (per N W)
  exact ⟨⟨b1, b2, b3, b4⟩, pell_bd n0 n1 b1 b2 b3 b4, abs_one OL.pell1, OL.pell2⟩
theorem lawT_bd {N W : Int} (OL : OkLaw N W) (w6 : W ≤ 6) {i : Nat} (hi : i ≤ per N W) : 0 < ((lawT N W).getD i (0, 0, 0)).2.2 ∧ ((lawT N W).getD i (0, 0, 0)).2.2 ≤ 12 := by
  have hlen : (lawT N W).length = per N W + 1 := by rw [lawT, tabN_length]
  have e : (lawT N W)[i]? = some ((lawT N W).getD i (0, 0, 0)) := by
    rw [List.getD_eq_getElem?_getD, List.getElem?_eq_getElem (by omega)]
    rfl
  have := OL.all _ (List.mem_of_getElem? e)
  omega
section
variable {prog : Program} {w : World} {A : Around} {E : Value → Shared → Prop} {s : Shared} {env : Env} {h₀ : Heap} {body : List Stmt} {Q : Flow → Shared → Prop} {x : Str}
theorem mul_bd {a b : Int} {t u : Tok} {Q : Value → Shared → Prop} (ha : a.natAbs < 2 ^ 128) (hb : b.natAbs < 2 ^ 128) (h : Q (.int (a * b) s.toks) { s with toks := s.toks + 1 }) : wpAny (model prog w) A (binaryOp .Mult (.int a t) (.int b u)) Q E s :=
  mul_int h (mulOk64 ha hb)
theorem ne_false {a b : Int} {t u : Tok} {Q : Value → Shared → Prop} (e : a = b) (h : Q (.bool false) s) : wpAny (model prog w) A (compareOp .NotEq (.int a t) (.int b u)) Q E s := by
  subst e
  refine P.ne_int ?_
  simpa using h
def ChkEnd (h₀ : Heap) (L : Addr) (R : List (Addr × Obj)) (m₀ : Str → Option Value) (x : Str) (s₁ s₂ : Shared) : Prop :=
  ∃ (h' : Heap) (tk : Nat) (m' : Str → Option Value), s₂ = { s₁ with heap := h', toks := tk } ∧ Fr h₀ L h' m' ∧ News h₀ L h' R ∧ ∀ z, z ≠ x → m' z = m₀ z
theorem chk_loop {r : Addr} {a₀ b₀ : Int} {t₀ u₀ v₀ : Tok} {n : Nat} {m₀ : Str → Option Value} {R : List (Addr × Obj)}
    (hh : A.handled = none) (hr : IsRange s.heap r a₀ b₀ 1 t₀ u₀ v₀) (hsmall : Builtin.Range.small a₀ b₀ 1 = true) (hn : Builtin.Range.rangeSize a₀ b₀ 1 = (n : Int)) (F : Fr h₀ env.locals s.heap m₀) (N : News h₀ env.locals s.heap R)
    (turn : ∀ (i : Nat) (k : Int) (t : Tok) (own : List (Addr × Obj)) (h : Heap) (tk : Nat), k = a₀ + (i : Int) → i < n →
      Fr h₀ env.locals h (fun y => if y = x then some (.int k t) else m₀ y) → News h₀ env.locals h (R ++ own) →
      wpAny (model prog w) A (execs body env) (RevPost (ChkEnd h₀ env.locals (R ++ own) m₀ x { s with heap := h, toks := tk }) Q) E { s with heap := h, toks := tk })
    (done : ∀ (u : Str → Option Value) (h : Heap) (tk : Nat), Fr h₀ env.locals h (fun y => if y = x then u y else m₀ y) → News h₀ env.locals h R → Q .next { s with heap := h, toks := tk }) :
    wpAny (model prog w) A (pyIter (.ref r)) (fun it s₂ => LoopAtV prog w A h₀ env x body Q E it s₂) E s := by
  have stm : ∀ u : Str → Option Value, (fun z => if ([] : List Str).contains z then u z else m₀ z) = m₀ := fun u => by funext z; simp
  refine kst_range (σ := Unit) (fun _ => R) (fun _ => []) (fun _ => True) [] (fun _ _ => True) () hh hr hsmall hn F N trivial (fun _ h => nomatch h) trivial ?_ ?_
  · intro c pre k t u h tk own hk hlt hoff _ _ F' N'
    rw [show (fun y => if y = x then some (Value.int k t) else kstB (fun z => if ([] : List Str).contains z then u z else m₀ z) [] y) = fun y => if y = x then some (Value.int k t) else m₀ y from by rw [stm u]; rfl] at F'
    refine wpAny_mono (turn pre.length k t own h tk hk hlt F' N') (fun f s₂ p => ?_) fun _ _ e => e
    have fin : ChkEnd h₀ env.locals (R ++ own) m₀ x { s with heap := h, toks := tk } s₂ → InvEndN h₀ env.locals (KstS (fun _ : Unit => R) (fun _ => []) (fun _ => True) x [] m₀ (fun _ _ => True) (pre ++ [k])) own (R.map (·.1)) { s with heap := h, toks := tk } s₂ := by
      rintro ⟨h', tk', m', e, F₁, N₁, g⟩
      exact ⟨h', tk', m', R ++ own, R, e, F₁, N₁, fun p hp => List.mem_append_left _ hp, fun p hp => List.mem_append_right _ hp, rfl, (), rfl, trivial, (fun _ h => nomatch h), (fun z hz _ _ => g z hz), trivial⟩
    cases f with
    | ret v => exact p
    | brk => exact p
    | next => exact fin p
    | cont => exact fin p
  · intro c u h tk _ _ F' N'
    rw [show (fun y => if y = x then u y else kstB (fun z => if ([] : List Str).contains z then u z else m₀ z) [] y) = fun y => if y = x then u y else m₀ y from by rw [stm u]; rfl] at F'
    exact done u h tk F' N'
end
end Mine

namespace Mine
open PySem.Calls PySem.Spec
local macro_rules | `(tactic| walk_at "exec For Name Subscript cons nil") => `(tactic| (k_here; (rename Fr _ _ _ _ => lF'); (with_unfolding_all refine' For_invVF lF' ?k1 ?k2 ?_; (case k1 => exact rfl); (case k2 => exact rfl); k_whole)))
local macro_rules | `(tactic| walk_at "call ref") => `(tactic| (first
  | (with_reducible show wpAny _ _ (call (Value.ref 65) _) _ _ _)
  | (with_reducible show wpAny _ _ (call (Value.ref 72) _) _ _ _)); (with_reducible refine Hold.out ?_))
local macro_rules | `(tactic| k_all) => `(tactic| first | (with_reducible assumption) | exact List.forall_mem_nil _ | (refine' List.forall_mem_cons.mpr ⟨?a, ?b⟩; (case a => k_ne); (case b => k_all)) | (intro p9 h9; have q9 := @kst_ltOf; grind))
local macro_rules | `(tactic| walk_at "exec If") => `(tactic| ((with_reducible show wpAny _ _ (exec (Stmt.If (PySem.Expr.Compare _ [CmpOp.Eq] _ _) _ _ _) _) _ _ _); (fail_if_success (with_reducible show wpAny _ _ _ (MPost _ _ _ _ _ _) _ _)); (with_reducible refine Hold.out ?_)))
local macro_rules | `(tactic| walk_at "exec Assign cons ListComp") => `(tactic| ((with_reducible show wpAny _ _ (exec (Stmt.Assign _ (PySem.Expr.ListComp _ (⟨PySem.Expr.Tuple _ _ _, _, _, _⟩ :: _) _ _) _) _) _ _ _); (with_reducible refine Hold.out ?_)))
local macro_rules | `(tactic| walk_at "eval ListComp") => `(tactic| ((with_reducible show wpAny _ _ (eval (PySem.Expr.ListComp _ (⟨PySem.Expr.Tuple _ _ _, _, _, _⟩ :: _) _ _) _) _ _ _); (with_reducible refine Hold.out ?_)))
local macro_rules | `(tactic| walk_at "compareOp NotEq ref ref") => `(tactic| ((with_reducible show wpAny _ _ (compareOp CmpOp.NotEq (Value.ref _) (Value.ref _)) _ _ _); k_dflt (refine' ne_use ?N ?ha ?hb ?hi ?hj ?hu ?e ?_; (case N => k_asm); (case ha => k_mem); (case hb => k_mem); (case hi => first | assumption | exact .nil); (case hj => first | assumption | exact .nil); (case hu => ke_room); (case e => first | exact rfl | exact (OkLaw.rev (by assumption)).symm))))
local macro_rules | `(tactic| walk_at "subscriptTail Name Slice ref ref") => `(tactic| ((with_reducible show wpAny _ _ (subscriptTail _ (PySem.Expr.Slice (some _) (some _) none _) (Value.ref _) (Value.ref _)) _ _ _); k_dflt (refine' mid_use ?F ?N ?hm ?hi ?k8 ?_ ?s ?t; (case F => k_asm); (case N => k_asm); (case hm => k_mem); (case hi => assumption); (case k8 => assumption); (case s => with_unfolding_all rfl); (case t => kmk_pure)); intro D' ws' h' F' N' l1 hI'; (simp only [AllLt] at l1)))
local macro_rules | `(tactic| walk_at "subscriptTail Subscript") => `(tactic| ((with_reducible show wpAny _ _ (subscriptTail _ (PySem.Expr.Slice none none (some _) _) (Value.ref _) (Value.ref _)) _ _ _); k_dflt (dsimp only; (refine' revs_use ?zF ?zN ?zhm ?zhi ?zk8 ?_); (case zF => k_asm); (case zN => k_asm); (case zhm => k_mem); (case zhi => assumption); (case zk8 => assumption)); intro D' ws' h' F' N' l1 hI'; (simp only [AllLt] at l1)))
local macro_rules | `(tactic| walk_at "compareOp NotEq ref ref") => `(tactic| ((with_reducible show wpAny _ _ (compareOp CmpOp.NotEq (Value.ref _) (Value.ref _)) _ _ _); k_dflt (refine' ne_use ?N ?ha ?hb ?hi ?hj ?hu ?_; (case N => k_asm); (case ha => k_mem); (case hb => k_mem); (case hi => assumption); (case hj => assumption); (case hu => ke_room)); (try simp only [OkLaw.rev (by assumption), decide_true, Bool.not_true, eq_self])))
local macro_rules | `(tactic| walk_at "eval Subscript") => `(tactic| ((with_reducible show wpAny _ _ (eval (PySem.Expr.Subscript _ (PySem.Expr.Slice (some _) (some _) none _) _) _) _ _ _); (with_reducible refine Hold.out ?_)))
local macro_rules | `(tactic| walk_at "subscriptTail Name UnaryOp ref int") => `(tactic| ((with_reducible show wpAny _ _ (subscriptTail _ _ (Value.ref _) (Value.int (-1) _)) _ _ _); k_dflt ((refine' part_last (by assumption) ?zN ?zhm ?zhs ?zk8 ?_); (case zN => k_asm); (case zhm => k_mem); (case zhs => intro p hp; simp only [List.mem_cons, List.mem_append]; grind); (case zk8 => assumption)); intro a9 u1 u2 u3 N9'; (try dsimp only at N9'); (try dsimp only)))
local macro_rules | `(tactic| walk_at "subscriptTail Name Constant ref int") => `(tactic| (k_dflt ((refine' part_k (by assumption) ?zN ?zhm ?zhs ?zh0 ?zh1 ?zk8 ?_); (case zN => k_asm); (case zhm => k_mem); (case zhs => intro p hp; simp only [List.mem_cons, List.mem_append]; grind); (case zh0 => omega); (case zh1 => omega); (case zk8 => assumption)); intro a9 u1 u2 u3 N9'; (try dsimp only at N9'); (try dsimp only)))
local macro_rules | `(tactic| walk_at "subscriptTail Subscript") => `(tactic| ((with_reducible show wpAny _ _ (subscriptTail _ (PySem.Expr.Slice (some _) none none _) (Value.ref _) (Value.ref _)) _ _ _); k_dflt (dsimp only; (refine' cut_use ?zF ?zN ?zhm ?_); (case zF => k_asm); (case zN => k_asm); (case zhm => k_mem)); intro D' h' F' N' l1; (simp only [AllLt] at l1)))
local macro_rules | `(tactic| walk_at "compareOp NotEq ref ref") => `(tactic| ((with_reducible show wpAny _ _ (compareOp CmpOp.NotEq (Value.ref _) (Value.ref _)) _ _ _); k_dflt (refine' tne_use ?N ?ha ?hb ?hu ?e1 ?e2 ?_; (case N => k_asm); (case ha => k_mem); (case hb => k_mem); (case hu => ke_room); (case e1 => exact congrArg Prod.fst (OkLaw.ends (by assumption))); (case e2 => exact congrArg Prod.snd (OkLaw.ends (by assumption))))))
local macro_rules | `(tactic| walk_at "pyIter ref") => `(tactic| ((with_reducible show wpAny _ _ (pyIter (Value.ref _)) _ _ _); (with_reducible refine Hold.out ?_)))
local macro_rules | `(tactic| walk_at "binaryOp Mult int int") => `(tactic| (k_here; (with_reducible refine mul_bd ?ka ?kb ?_); (case ka => first | (with_reducible assumption) | omega); (case kb => first | (with_reducible assumption) | omega)))
local macro_rules | `(tactic| walk_at "call builtin:len") => `(tactic| (k_here; (with_reducible show wpAny _ _ (call (Value.builtin "len") [Value.ref _]) _ _ _); (refine KM.len_K (by k_asm) (by k_dflt k_mem) (by with_reducible assumption) (by omega) ?_)))
local macro_rules | `(tactic| walk_at "subscriptTail Name BinOp ref int") => `(tactic| (k_dflt ((refine' part_k (by assumption) ?zN ?zhm ?zhs ?zh0 ?zh1 ?zk8 ?_); (case zN => k_asm); (case zhm => k_mem); (case zhs => intro p hp; simp only [List.mem_cons, List.mem_append]; grind); (case zh0 => omega); (case zh1 => omega); (case zk8 => assumption)); intro a9 u1 u2 u3 N9'; (try dsimp only at N9'); (try dsimp only)))
local macro_rules | `(tactic| walk_at "compareOp NotEq int int") => `(tactic| ((with_reducible refine ne_false ?ke ?_); (case ke => with_reducible assumption)))
local macro_rules | `(tactic| walk_at "execs nil") => `(tactic| (with_reducible refine wpAny_execs_nil ?_))
local macro_rules | `(tactic| walk_at "binaryOp Pow int int") => `(tactic| ((with_reducible refine pow_int_small ?kn1 ?kn2 ?kn3 ?_); (case kn1 => decide); (case kn2 => decide); (case kn3 => with_reducible assumption)))
local macro_rules | `(tactic| walk_at "And") => `(tactic| ((with_reducible show GoodW _ _ _ _ _ _ _ ∧ _); (with_reducible refine Hold.out ?_)))
theorem law_ints : (List.map (fun k' => k' * k') (rangeKs 0 (8 - 0 : Int).toNat)) = [0, 1, 4, 9, 16, 25, 36, 49] := by decide +kernel
theorem holds : PySem.Challenge.rw_ia0009_01.Holds := hd (by
  k_go0
  (all_goals try k_fold)
  k_steps
  rename IntsAre _ (List.map _ _) => I8
  rw [law_ints] at I8
  obtain _ | ⟨_, t0, _ | ⟨_, t1, _ | ⟨_, t2, _ | ⟨_, t3, _ | ⟨_, t4, _ | ⟨_, t5, _ | ⟨_, t6, _ | ⟨_, t7, _ | _⟩⟩⟩⟩⟩⟩⟩⟩ := I8
  rename News _ _ _ _ => N9
  rename (@Ne Nat _ _) ∧ _ => o1
  rename (@LT.lt Nat _ _ _) ∧ (@LT.lt Nat _ _ _) ∧ (@LT.lt Nat _ 37 _) ∧ _ => l1
  rename (@LT.lt Nat _ 37 _) ∧ (@LT.lt Nat _ 30 _) => l0
  unfold Hold
  refine' outer_loop (tl₀ := [(30, tabObj #[]), (37, tabObj #[])]) ?hh ?F (news_sw N9) ?hT ?hO ?hC ?hm ?hiv ?turn ?done
  case hh => rfl
  case F => k_asm
  case hT => exact ⟨none, none, rfl, True.intro, True.intro, fun p hp q hq => by simp only [tbL, List.mem_cons, List.not_mem_nil, or_false] at hp hq; subst hp; subst hq; decide⟩
  case hO => exact off_two (by omega) (by omega) (by omega) (by omega) (by omega) (by omega)
  case hC => assumption
  case hm => rfl
  case hiv => assumption
  case turn =>
    intro d t own oC v tl u h tk hC hT hO a1 a2 a3 F' N'
    clear N9
    have q0 : 0 ≤ d.fmod 39 := Int.fmod_nonneg_of_pos d (by decide)
    have q1 : d.fmod 39 < 39 := Int.fmod_lt_of_pos d (by decide)
    have hne : ∀ p ∈ own ++ tl, p.1 ≠ _ := fun p hp => (List.mem_append.mp hp).elim (a3 p) fun hp e => hO _ (.tail _ (.tail _ (.head _))) p hp e.symm
    k_steps
    unfold Hold
    k_dflt (refine' bis_use (t0 := t0) (t1 := t1) (t2 := t2) (t3 := t3) (t4 := t4) (t5 := t5) (t6 := t6) (t7 := t7) ?x1 ?x2 ?B ?F ?X ?N ?hm ?T ?dp ?un ?_)
    case x1 => omega
    case x2 => omega
    case B => k_asm
    case F => k_asm
    case X => k_asm
    case N => k_asm
    case hm => k_mem
    case T => k_asm
    case dp => decide
    case un => decide
    intro W t' h' tk' F' N' hW
    have ⟨w1, w2, w3, w4, w5, w6⟩ := num_facts (by omega) (by omega) hW
    k_steps
    unfold Hold
    refine merge_if (fun n => OkNum n (W - 1) ∧ 0 < n ∧ n < 48) (by k_asm) (by k_asm) ?_ ?_
    · k_steps
      · exact ⟨_, _, _, _, rfl, ⟨w5.resolve_left (fun q => q (by assumption)), by omega, by omega⟩, by assumption, by assumption⟩
      · exact ⟨_, _, _, _, rfl, ⟨w6.resolve_left (by assumption), by omega, by omega⟩, fr_same (by assumption) rfl, by assumption⟩
    · intro n tn hn tkn ⟨K, n0, n1⟩ F' N'
      dsimp only
      clear w3 w4 w5 w6
      k_steps
      unfold Hold
      k_dflt (refine' parts_use K hT ?hO ?B ?F ?X ?N ?T ?C1 ?C2 ?dp ?un ?_)
      case B => k_asm
      case F => k_asm
      case X => k_asm
      case N => k_asm
      case hO => exact off_cell hO
      case T => k_asm
      case C1 => assumption
      case C2 => assumption
      case dp => decide
      case un => decide
      intro Dp us cnt tups tl' h' tk' F' N' hTr hT' hO'
      have k8 := K.k8
      have hul : us.length = per n (W - 1) + 1 := by rw [hTr.length, tabN_length]
      k_steps
      unfold Hold
      rename News _ _ _ _ => N9
      k_dflt (refine' assign3 (fun i ys => IntsAre ys (((tabN n (W - 1) (per n (W - 1) + 1)).take i).map (·.1))) ?F N9 ?hh ?hLe ?hsw ?hclos ?hcell ?hkind ?hnames ?hxa ?hxb ?hxc ?hab ?hac ?hbc ?hy ?hp ?hiter ?hm (hTr.mono ?hsub) ?hsz ?hlen ?acc0 ?R ?fin)
      case F => k_asm
      case hh => rfl
      case hLe => rfl
      case hsw => with_unfolding_all rfl
      case hclos => with_unfolding_all rfl
      case hcell => decide
      case hkind => rfl
      case hnames => decide
      case hxa => rfl
      case hxb => rfl
      case hxc => rfl
      case hab => decide
      case hac => decide
      case hbc => decide
      case hy => rfl
      case hp => rfl
      case hiter => intro Q' hQ'; exact nameX_L (by k_asm) rfl hQ'
      case hm => exact .head _
      case hsub => intro p hp; simp only [List.mem_cons, List.mem_append]; grind
      case hsz => rw [sizeLine_eq]; omega
      case hlen => intro i ys hi; rw [hi.length, List.length_map, List.length_take]; omega
      case acc0 => exact .nil
      case R =>
        intro g i x t1 t2 t3 I oI C oC D m₂ ys h tk E' hx hA hC e1 e2 e3 F' N' off ne
        refine wpAny_tests_nil ?_
        simp only [if_true]
        k_steps
        exact ⟨_, _, rfl, by assumption, by assumption, acc_row hx hA⟩
      case fin =>
        clear N9
        intro Dr ys h tk F' N' lD hA
        dsimp only at hA ⊢
        rw [hul, List.take_of_length_le (by rw [tabN_length]; exact Nat.le_refl _)] at hA
        replace hA : IntsAre ys (lawP n (W - 1)) := hA
        replace lD := allLt_of lD
        simp only [AllLt] at lD
        have hMk : KstMark := kstMark
        have OL : OkLaw n (W - 1) := law_of K n0 n1
        have hyl : (lawP n (W - 1)).length = per n (W - 1) + 1 := lawP_length _ _
        have hml : (lawM n (W - 1)).length ≤ 8 := by rw [OL.mlen]; omega
        have f1 : (lawP n (W - 1)).getD (Int.toNat 0) 0 = W - 1 := OL.first
        have f2 : (lawP n (W - 1)).getD (-1 + ((lawP n (W - 1)).length : Int)).toNat 0 = 2 * (W - 1) := by
          rw [hyl, show (-1 + ((per n (W - 1) + 1 : Nat) : Int)).toNat = per n (W - 1) by omega]; exact OL.last
        k_steps
        · unfold Hold
          refine Subscript_ ?_
          k_steps
          unfold Hold
          refine Subscript_ ?_
          k_steps
          unfold Hold
          rename News _ _ _ _ => N9
          have hTr' : Trip tups us (lawT n (W - 1)) := hTr
          k_dflt (refine' comp3 (fun _ ys => ys = []) ?F N9 ?hh ?hclos ?hcell ?hkind ?hnames ?hxa ?hxb ?hxc ?hab ?hac ?hbc ?hiter ?hm (hTr'.mono ?hsub) ?hsz ?hlen ?acc0 ?R ?fin)
          case F => k_asm
          case hh => rfl
          case hclos => with_unfolding_all rfl
          case hcell => decide
          case hkind => rfl
          case hnames => decide
          case hxa => rfl
          case hxb => rfl
          case hxc => rfl
          case hab => decide
          case hac => decide
          case hbc => decide
          case hiter => intro Q' hQ'; exact nameX_L (by k_asm) rfl hQ'
          case hm => k_mem
          case hsub => intro p hp; simp only [List.mem_cons, List.mem_append]; grind
          case hsz => rw [sizeLine_eq]; omega
          case hlen => intro i ys hi; rw [hi]; exact Nat.zero_le _
          case acc0 => rfl
          case R =>
            intro g i x t1 t2 t3 I oI C oC D m₂ zs h tk E' hx hA hC e1 e2 e3 F' N' off ne
            obtain ⟨x1, x2, x3, x4⟩ := OL.all x (List.mem_of_getElem? hx)
            refine wpAny_tests_one ?_
            k_steps
            exact ⟨_, _, rfl, by assumption, by assumption, hA⟩
          case fin =>
            clear N9
            intro Dq zs h tk F' N' lQ hQ
            subst hQ
            k_steps
            unfold Hold
            refine Subscript_ ?_
            rename @LT.lt Nat _ _ _ ∧ @LT.lt Nat _ _ _ ∧ @LT.lt Nat _ _ _ ∧ @LT.lt Nat _ _ _ ∧ @LT.lt Nat _ _ _ ∧ @LT.lt Nat _ _ _ ∧ @LT.lt Nat _ _ _ ∧ @LT.lt Nat _ _ _ ∧ @LT.lt Nat _ _ _ ∧ @LT.lt Nat _ _ _ ∧ @LT.lt Nat _ _ _ ∧ @LT.lt Nat _ _ _ ∧ @LT.lt Nat _ _ _ ∧ @LT.lt Nat _ _ _ ∧ @LT.lt Nat _ _ _ ∧ AllLt _ _ => z2
            rename @LT.lt Nat _ _ _ ∧ @LT.lt Nat _ _ _ ∧ @LT.lt Nat _ _ _ ∧ @LT.lt Nat _ _ _ ∧ @LT.lt Nat _ _ _ ∧ @LT.lt Nat _ _ _ ∧ @LT.lt Nat _ _ _ ∧ @LT.lt Nat _ _ _ ∧ @LT.lt Nat _ _ _ ∧ @LT.lt Nat _ _ _ ∧ @LT.lt Nat _ _ _ ∧ @LT.lt Nat _ _ _ ∧ @LT.lt Nat _ _ _ ∧ @LT.lt Nat _ _ _ ∧ AllLt _ _ => z3
            rename News _ _ _ _ => N9
            have ⟨N8, c1, c2, c3⟩ := led_clean N9 z2 z3
            clear N9 z2 z3
            k_steps
            unfold Hold
            have BD : OkBd n (W - 1) := bd_of K n0 n1
            rename News _ _ _ _ => N9
            rename IntsAre _ (lawM n (W - 1)) => hMw
            simp only [AllLt] at c2 c3
            refine' mid_loop (x1 := W - 1) (M := lawM n (W - 1)) ?hh ?F N9 hMw ?ht0 ?hl0 ?turn2 ?done2
            case hh => rfl
            case F => k_asm
            case ht0 =>
              have z : ∀ t1 t2, IntsAre [.int 1 t1, .int ((lawP n (W - 1)).getD (Int.toNat 0) 0) t2] [1, W - 1] := fun t1 t2 => by
                rw [f1]
                exact .cons _ _ (.cons _ _ .nil)
              exact z _ _
            case hl0 => exact .cons _ _ (.cons _ _ .nil)
            case turn2 =>
              clear N9
              intro i d t ts ls ct cl own2 h tk hi hd hts hls hoff F' N'
              simp only [List.cons_append] at N'
              have hneT := ne_app c3.2.2.2.2.2 (fun p hp => (hoff p hp).1)
              have hneW := ne_app c2.2.2.2.2.2 (fun p hp => (hoff p hp).2)
              have hi9 : i < per n (W - 1) := by have := OL.mlen; omega
              have ⟨d0, d1⟩ := BD.m d (List.mem_of_getElem? hd)
              have q1 := conv_length 1 (W - 1) (lawM n (W - 1)) i
              have q2 := conv_length 0 1 (lawM n (W - 1)) i
              have hul2 : ts.length = i + 2 := hts.length.trans q1
              have hwl2 : ls.length = i + 2 := hls.length.trans q2
              have hi8 : i ≤ 8 := by omega
              have ⟨b1, b2⟩ := BD.tops i hi9 (-1 + ((conv 1 (W - 1) (lawM n (W - 1)) i).length : Int)).toNat
              have ⟨b3, b4⟩ := BD.tops i hi9 (-2 + ((conv 1 (W - 1) (lawM n (W - 1)) i).length : Int)).toNat
              have ⟨b5, b6⟩ := BD.lows i hi9 (-1 + ((conv 0 1 (lawM n (W - 1)) i).length : Int)).toNat
              have ⟨b7, b8⟩ := BD.lows i hi9 (-2 + ((conv 0 1 (lawM n (W - 1)) i).length : Int)).toNat
              k_steps
              rename News _ _ _ _ => N8
              simp only [List.push_toArray] at N8
              refine ⟨_, _, _, _, _, _, _, rfl, by assumption, fun p hp => N8 p hp, conv_next hd hts rfl, conv_next hd hls rfl, ?_⟩
              intro z z1
              simp only [if_neg z1]
            case done2 =>
              clear N9
              intro ts ls ct cl u h tk hts hls F' N'
              have ek : (lawM n (W - 1)).length = per n (W - 1) - 1 := OL.mlen
              rw [ek] at hts hls
              have k1 := K.k1
              have q1 := conv_length 1 (W - 1) (lawM n (W - 1)) (per n (W - 1) - 1)
              have q2 := conv_length 0 1 (lawM n (W - 1)) (per n (W - 1) - 1)
              have hul2 : ts.length = per n (W - 1) + 1 := hts.length.trans (q1.trans (by omega))
              have hwl2 : ls.length = per n (W - 1) + 1 := hls.length.trans (q2.trans (by omega))
              have hsz2 : ts.toArray.size = per n (W - 1) + 1 := by rw [List.size_toArray, hul2]
              k_steps
              unfold Hold
              rename News _ _ _ _ => N9
              refine' chk_loop (n := per n (W - 1)) ?hh3 ?hr3 ?hs3 ?hn3 ?F3 N9 ?turn3 ?done3
              case hh3 => rfl
              case hr3 => assumption
              case hs3 => exact small_one (by omega) (by omega) (by omega) (by omega)
              case hn3 => rw [rangeSize_nat]; omega
              case F3 => k_asm
              case turn3 =>
                clear N9
                intro i k t own3 h tk hk hi F' N'
                simp only [List.cons_append] at N'
                have ⟨b1, b2⟩ := BD.tops (per n (W - 1) - 1) (by omega) k.toNat
                have ⟨b3, b4⟩ := BD.lows (per n (W - 1) - 1) (by omega) k.toNat
                have ⟨b5, b6, b7⟩ := pow2_bd b3 b4
                have ⟨b8, b9⟩ := lawT_bd OL K.w6 (i := (k - 1).toNat) (by omega)
                have b10 : 0 ≤ k.fmod 2 := Int.fmod_nonneg_of_pos k (by decide)
                have b11 : k.fmod 2 < 2 := Int.fmod_lt_of_pos k (by decide)
                have f3 := OL.eqs i hi
                rw [show i + 1 = k.toNat by omega, show ((k.toNat : Nat) : Int) = k by omega, show i = (k - 1).toNat by omega] at f3
                replace f3 : (conv 1 (W - 1) (lawM n (W - 1)) (per n (W - 1) - 1)).getD k.toNat 0 ^ Int.toNat 2 - n * (conv 0 1 (lawM n (W - 1)) (per n (W - 1) - 1)).getD k.toNat 0 ^ Int.toNat 2 = ((lawT n (W - 1)).getD (k - 1).toNat (0, 0, 0)).2.2 * (1 - 2 * k.fmod 2) := f3
                k_steps
                rename News _ _ _ _ => N8
                refine ⟨_, _, _, rfl, by assumption, fun p hp => N8 p (.tail _ hp), ?_⟩
                intro z z1
                simp only [if_neg z1]
              case done3 =>
                clear N9
                intro u2 h tk F' N'
                have e1 : (-1 + ((conv 1 (W - 1) (lawM n (W - 1)) (per n (W - 1) - 1)).length : Int)).toNat = per n (W - 1) := by omega
                have e2 : (-1 + ((conv 0 1 (lawM n (W - 1)) (per n (W - 1) - 1)).length : Int)).toNat = per n (W - 1) := by omega
                have ⟨⟨b1, b2, b3, b4⟩, ⟨b5, b6, b7, b8⟩, p1, p2⟩ := pell_facts OL BD n0 n1 k1 e1 e2
                k_steps
                rename News _ _ _ _ => N8
                refine ⟨_, _, _, _, _, tl', rfl, by assumption, rfl, fun p hp => N8 p ?_, by assumption, hT', off_cell hO'⟩
                simp only [List.mem_cons, List.mem_append] at hp ⊢
                grind
  case done =>
    intro oC v tl m₁ h tk hC hT F' N'
    k_steps
    unfold Hold
    refine ⟨goodW_bool (by assumption) (by assumption) (raisesW_false ?_) ?_, grown_of N' hT⟩
    · wrow_none_raised
    · wrow_post)
end Mine

theorem PySem.Challenge.cw_ia0009_01_holds : PySem.Challenge.rw_ia0009_01.Holds := by
  exact Mine.holds
