import PyProof.Rows.All
import Wide.All
import OpenK.AllK
import Wide.FinOn
import PySem.Challenge.RW_ic0006_01
set_option Elab.async false
set_option compiler.extract_closed false
section
open PySem PySem.W PySem.Spec PySem.Calls PyProof.Rows
set_option Elab.async false
namespace Mine

theorem nat_or_low (X s : Nat) : X ||| ((X / 2 ^ s) * 2 ^ s) = X := by
  rw [← Nat.shiftRight_eq_div_pow, ← Nat.shiftLeft_eq]
  apply Nat.eq_of_testBit_eq
  intro i
  rw [Nat.testBit_or, Nat.testBit_shiftLeft, Nat.testBit_shiftRight]
  by_cases h : s ≤ i
  · simp [h, show s + (i - s) = i by omega]
  · simp [h]
theorem nat_and_low (X s : Nat) : X &&& ((X / 2 ^ s) * 2 ^ s) = (X / 2 ^ s) * 2 ^ s := by
  rw [← Nat.shiftRight_eq_div_pow, ← Nat.shiftLeft_eq]
  apply Nat.eq_of_testBit_eq
  intro i
  rw [Nat.testBit_and, Nat.testBit_shiftLeft, Nat.testBit_shiftRight]
  by_cases h : s ≤ i
  · simp [h, show s + (i - s) = i by omega]
  · simp [h]
theorem xor_nat (X Y : Nat) : Builtin.bitXor (X : Int) (Y : Int) = ((X ||| Y : Nat) : Int) - ((X &&& Y : Nat) : Int) := by
  have h1 : decide ((0 : Int) ≤ (X : Int)) = true := by simp
  have h2 : decide ((0 : Int) ≤ (Y : Int)) = true := by simp
  have h3 : decide ((0 : Int) ≤ -(X : Int) - 1) = false := by rw [decide_eq_false_iff_not]; omega
  have h4 : decide ((0 : Int) ≤ -(Y : Int) - 1) = false := by rw [decide_eq_false_iff_not]; omega
  unfold Builtin.bitXor Builtin.bitOr Builtin.bitNot Builtin.bitAnd Builtin.bitNot
  rw [h1, h2, h3, h4]
  dsimp only
  have e1 : (-(-(X : Int) - 1) - 1).toNat = X := by omega
  have e2 : (-(-(Y : Int) - 1) - 1).toNat = Y := by omega
  rw [e1, e2, Int.toNat_natCast, Int.toNat_natCast]
  omega
theorem xor_low {x : Int} (s : Nat) (h : 0 ≤ x) : Builtin.bitXor x ((x / 2 ^ s) * 2 ^ s) = x % 2 ^ s := by
  obtain ⟨X, rfl⟩ := Int.eq_ofNat_of_zero_le h
  have e : ((X : Int) / 2 ^ s) * 2 ^ s = (((X / 2 ^ s) * 2 ^ s : Nat) : Int) := by
    rw [Int.natCast_mul, Int.natCast_ediv, Int.natCast_pow]; rfl
  rw [e, xor_nat, nat_or_low, nat_and_low]
  have := Int.emod_def (X : Int) (2 ^ s)
  rw [this, ← e, Int.mul_comm]
theorem bits_small {x : Int} (h : 0 ≤ x) {b : Nat} (hb : Builtin.Int.intBits x ≤ b) : x / 2 ^ b = 0 := by
  obtain ⟨X, rfl⟩ := Int.eq_ofNat_of_zero_le h
  unfold Builtin.Int.intBits at hb
  by_cases h0 : X = 0
  · subst h0; simp
  · have h1 : ((X : Int) == 0) = false := by simpa using h0
    rw [h1] at hb
    simp only [Bool.false_eq_true, if_false, Int.natAbs_natCast] at hb
    have h2 : X < 2 ^ b := Nat.lt_of_lt_of_le (Nat.lt_log2_self) (Nat.pow_le_pow_right (by decide) hb)
    have : (X : Int) / 2 ^ b = ((X / 2 ^ b : Nat) : Int) := by rw [Int.natCast_ediv, Int.natCast_pow]; rfl
    rw [this, Nat.div_eq_of_lt h2]; rfl
section
variable {prog : Program} {w : World} {A : Around} {E : Value → Shared → Prop} {s : Shared} {a b : Int} {t u : Tok} {Q : Value → Shared → Prop}
theorem rsh (ha : 0 ≤ a) (hb : 0 ≤ b) (h : ∀ t', Q (.int (a / 2 ^ b.toNat) t') { s with toks := s.toks + 1 }) : wpAny (model prog w) A (binaryOp .RShift (.int a t) (.int b u)) Q E s := by
  refine AutoIntOpsIf.rshift ?_
  rw [if_neg (by omega)]
  split
  · rename_i hc
    rw [if_neg (by omega)]
    have := bits_small ha (b := b.toNat) (by omega)
    rw [← this]
    exact h _
  · rw [Int.fdiv_eq_ediv_of_nonneg _ (by exact Int.pow_nonneg (by decide))]
    exact h _
theorem lsh (ha : 0 ≤ a) (ha2 : a < 2 ^ 40) (hb : 0 ≤ b) (hb2 : b ≤ 1000) (h : ∀ t', Q (.int (a * 2 ^ b.toNat) t') { s with toks := s.toks + 1 }) : wpAny (model prog w) A (binaryOp .LShift (.int a t) (.int b u)) Q E s :=
  lshift_int_small hb (by omega) (by omega) (h _)
theorem half (ha : 0 ≤ a) (h : ∀ q t', 2 * q ≤ a → a < 2 * q + 2 → Q (.int q t') { s with toks := s.toks + 1 }) : wpAny (model prog w) A (binaryOp .RShift (.int a t) (.int 1 u)) Q E s :=
  rsh ha (by decide) fun t' => h _ t' (by show 2 * (a / 2 ^ 1) ≤ a; omega) (by show a < 2 * (a / 2 ^ 1) + 2; omega)
theorem div_le_self' {a : Int} (ha : 0 ≤ a) (n : Nat) : a / 2 ^ n ≤ a := by
  obtain ⟨X, rfl⟩ := Int.eq_ofNat_of_zero_le ha
  have : (X : Int) / 2 ^ n = ((X / 2 ^ n : Nat) : Int) := by rw [Int.natCast_ediv, Int.natCast_pow]; rfl
  rw [this]
  exact Int.ofNat_le.mpr (Nat.div_le_self _ _)
theorem pow2_pos (n : Nat) : (0 : Int) < 2 ^ n := Int.pow_pos (by decide)
/-- a fact kept from the walk's own lines -/
def Fact (P : Prop) : Prop := P
/-- a power of two, hidden from arithmetic -/
def p2 (n : Nat) : Int := 2 ^ n
theorem p2_pos (n : Nat) : 0 < p2 n := pow2_pos n
theorem rshq (ha : 0 ≤ a) (hb : 0 ≤ b) (h : ∀ q t', Fact (q = a / p2 b.toNat) → 0 ≤ q → q ≤ a → Q (.int q t') { s with toks := s.toks + 1 }) : wpAny (model prog w) A (binaryOp .RShift (.int a t) (.int b u)) Q E s :=
  rsh ha hb fun t' => h _ t' rfl (Int.ediv_nonneg ha (Int.le_of_lt (pow2_pos _))) (div_le_self' ha _)
theorem lshq (ha : 0 ≤ a) (ha2 : a < 1099511627776) (hb : 0 ≤ b) (hb2 : b ≤ 1000) (h : ∀ v t', Fact (v = a * p2 b.toNat) → 0 ≤ v → Q (.int v t') { s with toks := s.toks + 1 }) : wpAny (model prog w) A (binaryOp .LShift (.int a t) (.int b u)) Q E s :=
  lsh ha ha2 hb hb2 fun t' => h _ t' rfl (Int.mul_nonneg ha (Int.le_of_lt (pow2_pos _)))
theorem xorl {n : Nat} (ha : 0 ≤ a) (h : ∀ t', Q (.int (a % 2 ^ n) t') { s with toks := s.toks + 1 }) : wpAny (model prog w) A (binaryOp .BitXor (.int a t) (.int ((a / 2 ^ n) * 2 ^ n) u)) Q E s :=
  xor_int (by rw [xor_low n ha]; exact h _)
theorem xorq {x q v : Int} {n : Nat} (hx : 0 ≤ x) (hq : Fact (q = x / p2 n)) (hv : Fact (v = q * p2 n)) (h : ∀ r t', Fact (r = x % p2 n) → 0 ≤ r → r ≤ x → Q (.int r t') { s with toks := s.toks + 1 }) : wpAny (model prog w) A (binaryOp .BitXor (.int x t) (.int v u)) Q E s := by
  unfold Fact at hq hv
  subst hv; subst hq
  refine xorl (n := n) hx fun t' => h _ t' rfl (Int.emod_nonneg _ (Int.ne_of_gt (pow2_pos _))) ?_
  have := Int.emod_add_mul_ediv x (p2 n)
  have h2 := Int.mul_nonneg (Int.le_of_lt (p2_pos n)) (Int.ediv_nonneg hx (Int.le_of_lt (p2_pos n)))
  show x % p2 n ≤ x
  omega
end
end Mine
namespace Mine
/-- a table of inner code that holds the one inner def -/
def TabF (line col : Nat) (qual : PySem.Str) (o : Obj) (rest : List (Addr × Obj)) : Prop :=
  ∃ c oc vs t, o = tabObj #[rawInt line, rawInt col, .ref c] ∧ (c, oc) ∈ rest ∧ oc.data = .fields vs ∧ vs[1]? = some (.str qual t)
theorem TabF.mono {line col : Nat} {qual : PySem.Str} {o : Obj} {l l' : List (Addr × Obj)} (x : TabF line col qual o l) (h : ∀ p ∈ l, p ∈ l') : TabF line col qual o l' :=
  let ⟨c, oc, vs, t, a, b, r⟩ := x; ⟨c, oc, vs, t, a, h _ b, r⟩
inductive Cut (x : Addr × Obj) : List (Addr × Obj) → List (Addr × Obj) → Prop
  | head {l : List (Addr × Obj)} : Cut x (x :: l) l
  | tail {y : Addr × Obj} {l l' : List (Addr × Obj)} : Cut x l l' → Cut x (y :: l) (y :: l')
theorem Cut.sub {x : Addr × Obj} {l l' : List (Addr × Obj)} (c : Cut x l l') : ∀ p ∈ l', p ∈ l := by
  induction c with
  | head => exact fun p h => .tail _ h
  | tail _ ih => intro p h; rcases List.mem_cons.mp h with rfl | h; exact .head _; exact .tail _ (ih p h)
theorem Cut.mem {x : Addr × Obj} {l l' : List (Addr × Obj)} (c : Cut x l l') : x ∈ l := by
  induction c with
  | head => exact .head _
  | tail _ ih => exact .tail _ ih
theorem tab_ne {h₀ h : Heap} {L a b : Addr} {oa ob : Obj} {news : List (Addr × Obj)} (N : News h₀ L h news) (ha : (a, oa) ∈ news) (hb : (b, ob) ∈ news) (n : oa ≠ ob) : a ≠ b := fun e => by
  have h1 := (N _ ha).1
  have h2 := (N _ hb).1
  dsimp only at h1 h2
  rw [e, h2] at h1
  exact n (Option.some.inj h1).symm
theorem triples_one (line col : Nat) (c : Addr) : TriplesOk (#[rawInt line, rawInt col, .ref c] : Array Value).toList := by simp [TriplesOk, rawInt]

section
variable {M : Model} {A : Around} {E : Value → Shared → Prop} {s : Shared} {h₀ : Heap} {L a c P : Addr} {m mg mb : PySem.Str → Option Value} {cn : PySem.Str} {cs : Scope} {ccd : Value} {cl : List (PySem.Str × Addr)} {news others : List (Addr × Obj)}
  {p : Program} {loose : List PySem.Str} {mean : ExcName → Option Value} {name qual : PySem.Str} {params : Arguments} {body : List Stmt} {scope : Scope} {pos : Pos} {firstLine : Nat} {clos : List (PySem.Str × Addr)} {oA : Obj}
theorem nestAny {Q : Value → Shared → Prop} (F : Fr h₀ L s.heap m) (N : News h₀ L s.heap news) (T : Top p loose mean mg mb h₀) (C : CodeHd h₀ c P) (hcd : ccd = .ref c) (hc : Cut (P, oA) news others) (hoff : ∀ p ∈ others, p.1 ≠ P)
    (hA : oA = tabObj #[] ∨ TabF pos.line pos.col qual oA others) (hcl : closureFor scope (envX cn cs L a ccd cl) = pure clos)
    (h : ∀ f c' oc vs t ctv doc h' tk, Fr h₀ L h' m →
      News h₀ L h' ((f, fnMade name qual params body scope clos doc ((mg "__name__").getD .none) c' ctv) :: (P, tabObj #[rawInt pos.line, rawInt pos.col, .ref c']) :: (c', oc) :: others) →
      oc.data = .fields vs → vs[1]? = some (.str qual t) → (∀ q ∈ others, q.1 < f) → (∀ q ∈ others, (∀ vs, q.2.data ≠ .fields vs) → @Ne Nat q.1 c') → (TabF pos.line pos.col qual oA others → oA = tabObj #[rawInt pos.line, rawInt pos.col, .ref c']) → Q (.ref f) { s with heap := h', toks := tk }) :
    wpAny M A (makeFunction name qual params (.stmts body) scope (envX cn cs L a ccd cl) [] [] [] pos firstLine) Q E s := by
  rcases hA with hA | hA
  · subst hA
    have hm := N _ hc.mem
    have hgs := T.g.keeps F.keep
    obtain ⟨bm, ob, b1, b2, b3, b4, b5, b6⟩ := T.bmain
    have hgP : mainGlobals ≠ P := fun q => by
      obtain ⟨o, es, ep, e, hd, _⟩ := hgs
      rw [q] at e; have e2 := hm.1; dsimp only at e2; rw [e2] at e; cases e; cases hd
    have hbP : bm ≠ P := fun q => by
      have e := F.keep _ _ b3
      rw [q] at e; have e2 := hm.1; dsimp only at e2; rw [e2] at e; cases e; cases b4
    have hbG : bm ≠ mainGlobals := fun q => by
      obtain ⟨o, es, ep, e, hd, _⟩ := T.g
      rw [q, e] at b3; cases b3; rw [hd] at b6; cases b6
    refine makeFunction_K (mg := mg) hcl rfl hgs hcd (C.keeps F.keep) hm.1 (by simp [TriplesOk]) (by simp [codeAmong]) hgP ⟨bm, ob, b1, b2, hbG, hbP, F.keep _ _ b3, b4, b5, b6⟩ fun c' ctv doc h' tk hx hge hlt hrec htb => ?_
    obtain ⟨c₂, oc, vs, t, e2, hoc, hd, hv⟩ := hrec
    cases e2
    have hLs : L < s.heap.objs.size := F.ns.lt
    have hPs : P < s.heap.objs.size := Heap.lt_size hm.1
    have hLP : L ≠ P := Ne.symm hm.2.1
    have keep : ∀ b o, b ≠ P → s.heap.get? b = some o → (h'.push (fnMade name qual params body scope clos doc ((mg "__name__").getD .none) c' ctv)).get? b = some o := fun b o hb e => Heap.get?_push_of_some _ (hx b o hb e)
    have hge' : s.heap.objs.size ≤ h'.objs.size := Nat.le_trans hge (Nat.le_of_lt hlt)
    have fresh : ∀ b, L < b → h₀.get? b = none := fun b hb => Heap.get?_none_of_le (Nat.le_trans F.above (Nat.le_of_lt hb))
    refine h h'.objs.size c' oc vs t ctv doc _ tk ⟨?_, fun b o e => ?_, F.above⟩ (fun q hq => ?_) hd hv (fun q hq => Nat.lt_of_lt_of_le (Heap.lt_size (N _ (hc.sub q hq)).1) hge') (fun q hq _ => Nat.ne_of_lt (Nat.lt_of_lt_of_le (Heap.lt_size (N _ (hc.sub q hq)).1) hge)) (fun x => ?_)
    · obtain ⟨oL, es, ep, hL, r⟩ := F.ns
      exact ⟨oL, es, ep, keep _ _ hLP hL, r⟩
    · exact keep b o (fun q => by rw [q] at e; have := hm.2.2; dsimp only at this; rw [this] at e; cases e) (F.keep b o e)
    · rcases List.mem_cons.mp hq with rfl | hq
      · exact ⟨Heap.get?_push_size _ rfl, Nat.ne_of_gt (Nat.lt_of_lt_of_le hLs hge'), fresh _ (Nat.lt_of_lt_of_le hLs hge')⟩
      · rcases List.mem_cons.mp hq with rfl | hq
        · exact ⟨Heap.get?_push_of_some _ (by simpa using htb), hm.2⟩
        · rcases List.mem_cons.mp hq with rfl | hq
          · exact ⟨Heap.get?_push_of_some _ hoc, Nat.ne_of_gt (Nat.lt_of_lt_of_le hLs hge), fresh _ (Nat.lt_of_lt_of_le hLs hge)⟩
          · have z := N _ (hc.sub q hq)
            exact ⟨keep _ _ (hoff q hq) z.1, z.2⟩
    · obtain ⟨_, _, _, _, e, _⟩ := x
      cases e
  · have hA' := hA
    obtain ⟨c', oc, vs, t, rfl, hoc, hd, hv⟩ := hA
    refine nestHit_K (c' := c') F N T C hcd hc.mem (triples_one _ _ _) (by simp [codeAmong, rawInt]) hcl fun f ctv doc h' tk F' N' l1 => ?_
    refine h f c' oc vs t ctv doc h' tk F' (fun q hq => ?_) hd hv (fun q hq => l1 q (hc.sub q hq)) (fun q hq hn => tab_ne N (hc.sub q hq) (hc.sub _ hoc) fun e => hn vs (by rw [e]; exact hd)) (fun _ => rfl)
    rcases List.mem_cons.mp hq with rfl | hq
    · exact N' _ (.head _)
    · refine N' _ (.tail _ ?_)
      rcases List.mem_cons.mp hq with rfl | hq
      · exact hc.mem
      · rcases List.mem_cons.mp hq with rfl | hq
        · exact hc.sub _ hoc
        · exact hc.sub _ hq
end
end Mine
namespace Mine
theorem news_front {h₀ h : Heap} {L : Addr} {x : Addr × Obj} {news own : List (Addr × Obj)} (N : News h₀ L h news) (c : Cut x news own) : News h₀ L h (x :: own) := fun q hq => by
  rcases List.mem_cons.mp hq with rfl | hq
  · exact N _ c.mem
  · exact N _ (c.sub q hq)
end Mine
end
section
open PySem PySem.W PySem.Spec PySem.Calls PyProof.Rows
set_option Elab.async false
namespace Mine
theorem p2_eq (k : Nat) : p2 (5 * k) = ((32 ^ k : Nat) : Int) := by
  unfold p2
  rw [show (2 : Int) ^ (5 * k) = ((2 ^ (5 * k) : Nat) : Int) by rw [Int.natCast_pow]; rfl, Nat.pow_mul]
theorem bits_digits {n : Int} (h0 : 0 ≤ n) (h1 : n < 33554432) : ∃ k : Nat, ((Builtin.Int.intBits n : Int) + 5 - 1).fdiv 5 = (k : Int) ∧ n < p2 (5 * k) ∧ k ≤ 5 ∧ (n ≠ 0 → 0 < k) ∧ (n = 0 → k = 0) := by
  obtain ⟨X, rfl⟩ := Int.eq_ofNat_of_zero_le h0
  unfold Builtin.Int.intBits
  by_cases hX : X = 0
  · subst hX
    exact ⟨0, by decide, by decide, by decide, by simp, by simp⟩
  · have e : ((X : Int) == 0) = false := by simpa using hX
    rw [e]
    simp only [Bool.false_eq_true, if_false, Int.natAbs_natCast]
    have hlt : X < 2 ^ (X.log2 + 1) := Nat.lt_log2_self
    have hle : X.log2 < 25 := (Nat.log2_lt hX).mpr (by omega)
    refine ⟨(X.log2 + 5) / 5, ?_, ?_, by omega, fun _ => by omega, fun h => by omega⟩
    · rw [Int.fdiv_eq_ediv_of_nonneg _ (by decide)]; omega
    · rw [p2_eq, show (32 : Nat) = 2 ^ 5 from rfl, ← Nat.pow_mul]
      refine Int.ofNat_lt.mpr (Nat.lt_of_lt_of_le hlt (Nat.pow_le_pow_right (by decide) (by omega)))

/-- ns with the k base-32 digits of x laid from place lo on -/
def putd (ns : List Int) (lo k : Nat) (x : Int) : List Int := ns.mapIdx fun i d => if lo ≤ i ∧ i < lo + k then x / ((32 ^ (i - lo) : Nat) : Int) % 32 else d
theorem putd_length (ns : List Int) (lo k : Nat) (x : Int) : (putd ns lo k x).length = ns.length := by simp [putd]
theorem putd_one {ns : List Int} {i : Nat} {x : Int} (h0 : 0 ≤ x) (h1 : x < 32) : ns.set i x = putd ns i 1 x := by
  apply List.ext_getElem
  · simp [putd]
  · intro j hj1 hj2
    simp only [putd, List.getElem_mapIdx, List.getElem_set]
    by_cases h : i = j
    · subst h
      rw [if_pos rfl, if_pos ⟨Nat.le_refl _, Nat.lt_succ_self _⟩, Nat.sub_self]
      show x = x / ((1 : Nat) : Int) % 32
      rw [show ((1 : Nat) : Int) = 1 from rfl, Int.ediv_one]; omega
    · rw [if_neg h, if_neg (by omega)]
theorem dig_hi (X a c : Nat) : X / 32 ^ a / 32 ^ c = X / 32 ^ (a + c) := by rw [Nat.div_div_eq_div_mul, ← Nat.pow_add]
theorem dig_lo (X : Nat) {a d : Nat} (h : d < a) : X % 32 ^ a / 32 ^ d % 32 = X / 32 ^ d % 32 := by
  obtain ⟨e, rfl⟩ : ∃ e, a = d + (1 + e) := ⟨a - d - 1, by omega⟩
  rw [Nat.pow_add, Nat.mod_mul_right_div_self, Nat.pow_add, Nat.pow_one, Nat.mod_mul_right_mod]
theorem putd_two {ns : List Int} {i a b : Nat} {x : Int} (h0 : 0 ≤ x) : putd (putd ns i a (x % p2 (5 * a))) (i + a) b (x / p2 (5 * a)) = putd ns i (a + b) x := by
  obtain ⟨X, rfl⟩ := Int.eq_ofNat_of_zero_le h0
  rw [p2_eq]
  have cast : ∀ (Y d : Nat), (Y : Int) / ((32 ^ d : Nat) : Int) % 32 = ((Y / 32 ^ d % 32 : Nat) : Int) := fun Y d => by
    rw [Int.natCast_emod, Int.natCast_ediv]; rfl
  have e1 : (X : Int) % ((32 ^ a : Nat) : Int) = ((X % 32 ^ a : Nat) : Int) := by rw [Int.natCast_emod]
  have e2 : (X : Int) / ((32 ^ a : Nat) : Int) = ((X / 32 ^ a : Nat) : Int) := by rw [Int.natCast_ediv]
  rw [e1, e2]
  apply List.ext_getElem
  · simp [putd]
  · intro j hj1 hj2
    simp only [putd, List.getElem_mapIdx, cast]
    by_cases hA : i + a ≤ j ∧ j < i + a + b
    · rw [if_pos hA, if_pos (by omega), dig_hi, show a + (j - (i + a)) = j - i by omega]
    · rw [if_neg hA]
      by_cases hB : i ≤ j ∧ j < i + a
      · rw [if_pos hB, if_pos (by omega), dig_lo _ (by omega)]
      · rw [if_neg hB, if_neg (by omega)]

/-- vs holds at most five base-32 digits of n, the lowest first -/
def Digs (vs : List Value) (n : Int) : Prop := ∃ ds : List Int, IntsAre vs ds ∧ ds.length ≤ 5 ∧ (∀ d ∈ ds, 0 ≤ d ∧ d < 32) ∧ ds.foldr (fun d a => a * 32 + d) 0 = n
theorem putd_zero (k : Nat) : ∀ X : Nat, putd (List.replicate k 0) 0 k (X : Int) = (List.range k).map fun i => ((X / 32 ^ i % 32 : Nat) : Int) := by
  intro X
  apply List.ext_getElem
  · simp [putd]
  · intro j hj1 hj2
    have hj : j < k := by simpa [putd] using hj1
    simp only [putd, List.getElem_mapIdx, List.getElem_map, List.getElem_range]
    rw [if_pos (by omega), Nat.sub_zero, Int.natCast_emod, Int.natCast_ediv]; rfl
theorem digs_val : ∀ (k X : Nat), X < 32 ^ k → ((List.range k).map fun i => ((X / 32 ^ i % 32 : Nat) : Int)).foldr (fun d a => a * 32 + d) 0 = (X : Int)
  | 0, X, h => by simp at h; subst h; rfl
  | k + 1, X, h => by
    rw [List.range_succ_eq_map, List.map_cons, List.map_map, List.foldr_cons]
    have e : ((fun i => ((X / 32 ^ i % 32 : Nat) : Int)) ∘ Nat.succ) = fun i => ((X / 32 / 32 ^ i % 32 : Nat) : Int) := by
      funext i
      simp only [Function.comp]
      rw [Nat.div_div_eq_div_mul, Nat.pow_succ, Nat.mul_comm]
    rw [e, digs_val k (X / 32) (by rw [Nat.pow_succ] at h; omega)]
    simp only [Nat.pow_zero, Nat.div_one]
    omega
theorem digs_end {vs : List Value} {b n : Int} {k : Nat} (hi : IntsAre vs (putd (List.replicate ((b + 5 - 1).fdiv 5).toNat [0]).flatten (Int.toNat 0) k n)) (hke : (b + 5 - 1).fdiv 5 = (k : Int)) (h0 : 0 ≤ n) (h1 : n < p2 (5 * k)) (hk : k ≤ 5) : Digs vs n := by
  rw [hke, Int.toNat_natCast, lm_rep_flat_one] at hi
  obtain ⟨X, rfl⟩ := Int.eq_ofNat_of_zero_le h0
  rw [show Int.toNat 0 = 0 from rfl, putd_zero] at hi
  rw [p2_eq] at h1
  refine ⟨_, hi, by simpa using hk, fun d hd => ?_, digs_val k X (by exact_mod_cast h1)⟩
  obtain ⟨i, _, rfl⟩ := List.mem_map.mp hd
  omega
theorem digs_nil {vs : List Value} {b n : Int} {k : Nat} (hi : IntsAre vs (List.replicate ((b + 5 - 1).fdiv 5).toNat [0]).flatten) (hke : (b + 5 - 1).fdiv 5 = (k : Int)) (hn : n = 0) (hk : k = 0) : Digs vs n := by
  rw [hke, hk] at hi
  subst hn
  exact ⟨_, hi, by simp, fun d hd => by simp at hd, by simp⟩
theorem pow5 {x : Int} {k : Nat} (h : x < p2 (5 * k)) (hk : k ≤ 5) : x < 33554432 := Int.lt_of_lt_of_le h (by
  rw [p2_eq]
  have h2 : (32 : Nat) ^ k ≤ 32 ^ 5 := Nat.pow_le_pow_right (by decide) hk
  exact Int.ofNat_le.mpr h2)
theorem mod_lt_p2 (x : Int) (n : Nat) : x % p2 n < p2 n := Int.emod_lt_of_pos _ (p2_pos n)
theorem div_lt_p2 {x : Int} {a b : Nat} (h0 : 0 ≤ x) (h : x < p2 (5 * (a + b))) : x / p2 (5 * a) < p2 (5 * b) := by
  refine Int.ediv_lt_of_lt_mul (p2_pos _) ?_
  rw [p2_eq] at h
  rw [p2_eq, p2_eq, ← Int.natCast_mul, ← Nat.pow_add, Nat.add_comm]
  exact h
theorem low_lt {r x : Int} {n k : Nat} (h : Fact (r = x % p2 n)) (e : n = 5 * k) : r < p2 (5 * k) := by
  unfold Fact at h; subst e; rw [h]; exact mod_lt_p2 _ _
theorem up_lt {q x : Int} {n b k : Nat} (h : Fact (q = x / p2 n)) (h0 : 0 ≤ x) (hx : x < p2 (5 * k)) (hk : 5 * k = n + 5 * b) : q < p2 (5 * b) := by
  unfold Fact at h
  obtain ⟨a, rfl⟩ : ∃ a, n = 5 * a := ⟨n / 5, by omega⟩
  obtain rfl : k = a + b := by omega
  rw [h]; exact div_lt_p2 h0 hx
theorem putd_join {vs : List Value} {ns : List Int} {lo mid hi x lower upper : Int} {n k : Nat} (h0 : 0 ≤ x) (hl : Fact (lower = x % p2 n)) (hu : Fact (upper = x / p2 n)) (hn : n = ((mid - lo) * 5).toNat) (h1 : 0 ≤ lo) (h2 : lo ≤ mid) (h3 : mid ≤ hi) (hk : hi - lo = (k : Int))
    (h : IntsAre vs (putd (putd ns lo.toNat (mid - lo).toNat lower) mid.toNat (hi - mid).toNat upper)) : IntsAre vs (putd ns lo.toNat k x) := by
  unfold Fact at hl hu
  subst hl; subst hu
  have e1 : n = 5 * (mid - lo).toNat := by omega
  have e2 : mid.toNat = lo.toNat + (mid - lo).toNat := by omega
  have e3 : k = (mid - lo).toNat + (hi - mid).toNat := by omega
  rw [e1, e2, putd_two h0, ← e3] at h
  exact h
section
variable {prog : Program} {w : World} {A : Around} {E : Value → Shared → Prop} {s : Shared} {h₀ : Heap} {L l : Addr} {news : List (Addr × Obj)} {vs : List Value} {ns : List Int} {e : Nat}
theorem truthyL {Q : Bool → Shared → Prop} (N : News h₀ L s.heap news) (hm : (l, W.listOf vs.toArray e) ∈ news) (hi : IntsAre vs ns) (hz : ns.length ≤ 1000) (h : Q (decide (0 < ns.length)) { s with toks := s.toks + 1 + 1 }) : wpAny (model prog w) A (truthy (.ref l)) Q E s := by
  have hl := hi.length
  refine wpAny_truthy_list (News.isList N hm) (by rw [List.size_toArray]; omega) ?_
  have : (!vs.toArray.isEmpty) = decide (0 < ns.length) := by
    rw [← hl]
    cases vs <;> simp
  rw [this]; exact h
theorem lenL {Q : Value → Shared → Prop} (N : News h₀ L s.heap news) (hm : (l, W.listOf vs.toArray e) ∈ news) (hi : IntsAre vs ns) (hz : ns.length ≤ 1000) (h : Q (.int (ns.length : Int) (s.toks + 1)) { s with toks := s.toks + 1 + 1 }) : wpAny (model prog w) A (call (.builtin "len") [.ref l]) Q E s := by
  have hl := hi.length
  refine Calls.call_len_list (News.isList N hm) (by rw [List.size_toArray]; omega) ?_
  rw [List.size_toArray, hl]; exact h
end
theorem join_lt {a b k : Nat} {v u : Int} {n : Nat} {y : Int} (hv0 : 0 ≤ v) (hv : v < p2 (5 * b)) (hu0 : 0 ≤ u) (hu : u < p2 (5 * a)) (hy : Fact (y = v * p2 n)) (hn : n = 5 * a) (hk : k = a + b) : 0 ≤ y + u ∧ y + u < p2 (5 * k) := by
  unfold Fact at hy
  subst hy; subst hn; subst hk
  rw [p2_eq] at hv hu ⊢
  rw [p2_eq]
  obtain ⟨V, rfl⟩ := Int.eq_ofNat_of_zero_le hv0
  obtain ⟨U, rfl⟩ := Int.eq_ofNat_of_zero_le hu0
  have hv' : V + 1 ≤ 32 ^ b := by omega
  have hu' : U < 32 ^ a := by omega
  have h1 : (V + 1) * 32 ^ a ≤ 32 ^ b * 32 ^ a := Nat.mul_le_mul_right _ hv'
  rw [Nat.add_mul, Nat.one_mul] at h1
  rw [Nat.pow_add, Nat.mul_comm (32 ^ a) (32 ^ b), ← Int.natCast_mul]
  omega
theorem get_lt {ns : List Int} (hr : ∀ d ∈ ns, 0 ≤ d ∧ d < 32) {i : Nat} (h : i < ns.length) : 0 ≤ ns.getD i 0 ∧ ns.getD i 0 < p2 (5 * 1) := by
  have e : p2 (5 * 1) = 32 := rfl
  rw [e, List.getD_eq_getElem?_getD, List.getElem?_eq_getElem h]
  exact hr _ (List.getElem_mem h)
theorem tabAny_mono {line col : Nat} {qual : PySem.Str} {o : Obj} {l l' : List (Addr × Obj)} (x : o = tabObj #[] ∨ TabF line col qual o l) (h : ∀ p ∈ l, p ∈ l') : o = tabObj #[] ∨ TabF line col qual o l' := x.imp_right fun y => y.mono h
theorem code_ne_tab {h₀ h : Heap} {L c P : Addr} {oc o : Obj} {news rest : List (Addr × Obj)} {vs : Array Value} {qual qual' : PySem.Str} {t : Tok} {line col : Nat} (N : News h₀ L h news) (hc : (c, oc) ∈ news) (ht : (P, o) ∈ news) (hd : oc.data = .fields vs) (hv : vs[1]? = some (.str qual t))
    (x : o = tabObj #[] ∨ TabF line col qual' o rest) : @Ne Nat c P := by
  refine tab_ne N hc ht fun e => ?_
  subst e
  rcases x with x | ⟨_, _, _, _, x, _⟩
  · rw [x] at hd; cases hd; simp at hv
  · rw [x] at hd; cases hd; simp [rawInt] at hv
theorem offI_of {I : Addr} {it : Obj} : ∀ {l : List (Addr × Obj)}, (∀ p ∈ l, p.1 ≠ I) → OffI I it l
  | [], _ => trivial
  | p :: r, h => ⟨.inl (h p (.head _)), offI_of fun q hq => h q (.tail _ hq)⟩
theorem rev_ind {prog : Program} {w : World} {A : Around} {E : Value → Shared → Prop} {h₀ : Heap} {env : Env} {x : PySem.Str} {body : List Stmt} {Q : Flow → Shared → Prop} {s : Shared} {I : Addr} {lp : Addr × Obj}
    (Inv : List Value → (PySem.Str → Option Value) → List (Addr × Obj) → Prop)
    (stop : ∀ m news, Inv [] m news → ∀ h tk, Fr h₀ env.locals h m → News h₀ env.locals h news → Q .next { s with heap := h, toks := tk })
    (step : ∀ v r m news, Inv (v :: r) m news → ∀ (it : Obj) h tk, it.cls = .type "list_reverseiterator" → Fr h₀ env.locals h (fun y => if y = x then some v else m y) → News h₀ env.locals h ((I, it) :: news) →
      wpAny (model prog w) A (execs body env) (UnrPost h₀ env.locals { s with heap := h, toks := tk } I it (fun m' n' => lp ∈ n' ∧ Inv r m' n') Q) E { s with heap := h, toks := tk }) :
    ∀ l m news, Inv l m news → RevRest prog w A E h₀ env x body Q s I lp l m news
  | [], m, news, hI => RevRest.zero (stop m news hI)
  | v :: r, m, news, hI => RevRest.succ fun it h tk hc F N => wpAny_mono (step v r m news hI it h tk hc F N) (fun f s₂ hp => by
      have up : UnrEnd h₀ env.locals { s with heap := h, toks := tk } I it (fun m' n' => lp ∈ n' ∧ Inv r m' n') s₂ → UnrEnd h₀ env.locals { s with heap := h, toks := tk } I it (fun m' n' => lp ∈ n' ∧ RevRest prog w A E h₀ env x body Q s I lp r m' n') s₂ := by
        rintro ⟨h', tk', m', news', e, F', N', ho, hm, hr⟩
        exact ⟨h', tk', m', news', e, F', N', ho, hm, rev_ind Inv stop step r m' news' hr⟩
      cases f with
      | ret v => exact hp
      | brk => exact hp
      | next => exact up hp
      | cont => exact up hp) fun _ _ e => e
def canon (m₀ : PySem.Str → Option Value) (rv : Value) (oq oa : Option Value) : PySem.Str → Option Value := fun y =>
  if y = ("r" : PySem.Str) then some rv else if y = ("q_digit" : PySem.Str) then oq else if y = ("a_digit" : PySem.Str) then oa else m₀ y
theorem canon_self {m₀ : PySem.Str → Option Value} {rv : Value} (h : m₀ "r" = some rv) : m₀ = canon m₀ rv (m₀ "q_digit") (m₀ "a_digit") := by
  funext y
  unfold canon
  split
  · rename_i e; rw [e, h]
  · split
    · rename_i e; rw [e]
    · split
      · rename_i e; rw [e]
      · rfl
theorem canon_next {m₀ : PySem.Str → Option Value} {rv rv' : Value} {oq oa : Option Value} {v q' : Value} :
    (fun y => if y = ("r" : PySem.Str) then some rv' else if y = ("q_digit" : PySem.Str) then some q' else if y = ("a_digit" : PySem.Str) then some v else canon m₀ rv oq oa y) = canon m₀ rv' (some q') (some v) := by
  funext y
  unfold canon
  by_cases h1 : y = ("r" : PySem.Str)
  · simp [h1]
  · by_cases h2 : y = ("q_digit" : PySem.Str)
    · simp [h2]
    · by_cases h3 : y = ("a_digit" : PySem.Str)
      · simp [h3]
      · simp [h1, h2, h3]
def RInv (n : Int) (qd : Addr) (m₀ : PySem.Str → Option Value) (rest₀ : List (Addr × Obj)) (l : List Value) (m : PySem.Str → Option Value) (news : List (Addr × Obj)) : Prop :=
  ∃ (dl : List Int) (qv : List Value) (qn : List Int) (e : Nat) (V : Int) (tr : Tok) (oq oa : Option Value), IntsAre l dl ∧ (∀ d ∈ dl, 0 ≤ d ∧ d < 32) ∧ IntsAre qv qn ∧ (∀ d ∈ qn, 0 ≤ d ∧ d < 32) ∧ qn.length + dl.length ≤ 5 ∧ 0 ≤ V ∧
    dl.foldl (fun a d => a * 32 + d) V = n ∧ m = canon m₀ (.int (V % 17) tr) oq oa ∧ news = (qd, W.listOf qv.toArray e) :: rest₀
theorem rinv_start {n : Int} {qd : Addr} {m₀ : PySem.Str → Option Value} {rest₀ : List (Addr × Obj)} {vs : List Value} {ds : List Int} {tr : Tok} (hr : m₀ "r" = some (.int 0 tr)) (hi : IntsAre vs ds) (hl : ds.length ≤ 5) (hd : ∀ d ∈ ds, 0 ≤ d ∧ d < 32) (hv : ds.foldr (fun d a => a * 32 + d) 0 = n) :
    RInv n qd m₀ rest₀ vs.reverse m₀ ((qd, W.listOf #[] 0) :: rest₀) := by
  refine ⟨ds.reverse, [], [], 0, 0, tr, _, _, ?_, fun d h => hd d (List.mem_reverse.mp h), .nil, fun d h => by simp at h, by simpa using hl, by decide, by rw [List.foldl_reverse]; exact hv, canon_self hr, rfl⟩
  clear hv hl hd
  induction hi with
  | nil => exact .nil
  | cons i t h ih => rw [List.reverse_cons, List.reverse_cons]; exact IntsAre.append ih (.cons i t .nil)
section
variable {prog : Program} {w : World} {A : Around} {E : Value → Shared → Prop} {s : Shared} {a b : Int} {t u : Tok} {Q : Value → Shared → Prop}
theorem lsh5 (ha : 0 ≤ a) (ha2 : a < 1099511627776) (h : ∀ v t', v = a * 32 → Q (.int v t') { s with toks := s.toks + 1 }) : wpAny (model prog w) A (binaryOp .LShift (.int a t) (.int 5 u)) Q E s :=
  lsh ha ha2 (by decide) (by decide) fun t' => h _ t' rfl
end
theorem intBits17 : Builtin.Int.intBits 17 = 5 := by decide +kernel
section
variable {prog : Program} {w : World} {A : Around} {E : Value → Shared → Prop} {s : Shared} {u : Tok} {Q : Value → Shared → Prop}
theorem bl17 (h : Q (.int 5 s.toks) { s with toks := s.toks + 1 }) : wpAny (model prog w) A (call (.builtin "int.bit_length") [.int 17 u]) Q E s :=
  call_int_bit_length (by rw [intBits17]; exact h)
end
theorem ints_rev {vs : List Value} {ds : List Int} (hi : IntsAre vs ds) : IntsAre vs.reverse ds.reverse := by
  induction hi with
  | nil => exact .nil
  | cons i t h ih => rw [List.reverse_cons, List.reverse_cons]; exact IntsAre.append ih (.cons i t .nil)
theorem rinv_step {n : Int} {qd : Addr} {m₀ : PySem.Str → Option Value} {rest₀ : List (Addr × Obj)} {r qv : List Value} {dl qn : List Int} {e : Nat} {V d qq rr : Int} {v rv : Value} {oq oa : Option Value} {tq tr : Tok}
    (hld : IntsAre r dl) (hdr : ∀ x ∈ d :: dl, 0 ≤ x ∧ x < 32) (hqi : IntsAre qv qn) (hqr : ∀ x ∈ qn, 0 ≤ x ∧ x < 32) (hqz : qn.length + (dl.length + 1) ≤ 5) (hV : 0 ≤ V) (hfo : (d :: dl).foldl (fun a d => a * 32 + d) V = n)
    (hq0 : 0 ≤ qq) (hq1 : qq < 32) (hrr : rr = (V * 32 + d) % 17) :
    RInv n qd m₀ rest₀ r (fun y => if y = ("r" : PySem.Str) then some (Value.int rr tr) else if y = ("q_digit" : PySem.Str) then some (Value.int qq tq) else if y = ("a_digit" : PySem.Str) then some v else canon m₀ rv oq oa y) ((qd, W.listOf (qv ++ [Value.int qq tq]).toArray e) :: rest₀) := by
  have hd := hdr d (.head _)
  refine ⟨dl, qv ++ [.int qq tq], qn ++ [qq], e, V * 32 + d, tr, some (.int qq tq), some v, hld, fun x hx => hdr x (.tail _ hx), IntsAre.append hqi (.cons qq tq .nil), fun x hx => ?_, by simp; omega, by omega, hfo, ?_, rfl⟩
  · rcases List.mem_append.mp hx with h | h
    · exact hqr x h
    · rw [List.mem_singleton.mp h]; exact ⟨hq0, hq1⟩
  · rw [hrr]; exact canon_next
theorem news_front2 {h₀ h : Heap} {L : Addr} {x y : Addr × Obj} {news own own' : List (Addr × Obj)} (N : News h₀ L h news) (c : Cut x news own) (d : Cut y own own') : News h₀ L h (x :: y :: own') := fun q hq => by
  rcases List.mem_cons.mp hq with rfl | hq
  · exact N _ c.mem
  · rcases List.mem_cons.mp hq with rfl | hq
    · exact N _ (c.sub _ d.mem)
    · exact N _ (c.sub _ (d.sub q hq))
/-- what the row tells at a root, before the rest is taken -/
def at_val (r0 r1 r2 r3 x : Int) : Int := r0 + r1 * x + r2 * (x * x) + r3 * (x * x * x)
theorem lawat_sum {r0 r1 r2 r3 root : Int} (g0 : 0 ≤ r0 ∧ r0 < 17) (g1 : 0 ≤ r1 ∧ r1 < 17) (g2 : 0 ≤ r2 ∧ r2 < 17) (g3 : 0 ≤ r3 ∧ r3 < 17) :
    (List.map (fun k' : Int => if 0 ≤ [r0, r1, r2, r3].getD k'.toNat 0 ∧ [r0, r1, r2, r3].getD k'.toNat 0 < 256 then [r0, r1, r2, r3].getD k'.toNat 0 * root ^ k'.toNat else k') (rangeKs 0 (4 - 0 : Int).toNat)).sum = at_val r0 r1 r2 r3 root := by
  show (if 0 ≤ r0 ∧ r0 < 256 then r0 * root ^ 0 else 0) + ((if 0 ≤ r1 ∧ r1 < 256 then r1 * root ^ 1 else 1) + ((if 0 ≤ r2 ∧ r2 < 256 then r2 * root ^ 2 else 2) + ((if 0 ≤ r3 ∧ r3 < 256 then r3 * root ^ 3 else 3) + 0))) = _
  rw [if_pos (by omega), if_pos (by omega), if_pos (by omega), if_pos (by omega)]
  unfold at_val
  have e0 : root ^ 0 = 1 := Int.pow_zero _
  have e1 : root ^ 1 = root := by rw [Int.pow_succ, e0, Int.one_mul]
  have e2 : root ^ 2 = root * root := by rw [Int.pow_succ, e1]
  have e3 : root ^ 3 = root * root * root := by rw [Int.pow_succ, e2]
  rw [e0, e1, e2, e3]
  omega
theorem mul_le {a b A B : Int} (ha : 0 ≤ a) (hb : 0 ≤ b) (h1 : a ≤ A) (h2 : b ≤ B) : 0 ≤ a * b ∧ a * b ≤ A * B := ⟨Int.mul_nonneg ha hb, Int.mul_le_mul h1 h2 hb (Int.le_trans ha h1)⟩
theorem at_bound {r0 r1 r2 r3 x : Int} (g0 : 0 ≤ r0 ∧ r0 < 17) (g1 : 0 ≤ r1 ∧ r1 < 17) (g2 : 0 ≤ r2 ∧ r2 < 17) (g3 : 0 ≤ r3 ∧ r3 < 17) (hr : 0 ≤ x ∧ x < 17) : 0 ≤ at_val r0 r1 r2 r3 x ∧ at_val r0 r1 r2 r3 x < 100000 := by
  have h2 := mul_le hr.1 hr.1 (A := 16) (B := 16) (by omega) (by omega)
  have h3 := mul_le h2.1 hr.1 (A := 256) (B := 16) (by omega) (by omega)
  have a1 := mul_le g1.1 hr.1 (A := 16) (B := 16) (by omega) (by omega)
  have a2 := mul_le g2.1 h2.1 (A := 16) (B := 256) (by omega) (by omega)
  have a3 := mul_le g3.1 h3.1 (A := 16) (B := 4096) (by omega) (by omega)
  unfold at_val
  omega
def prod_val (r0 r1 r2 r3 : Int) : Int := ([1, 4, 16, 13] : List Int).foldl (fun v x => v * (at_val r0 r1 r2 r3 x % 17) % 17) 1
def round_val (r0 r1 r2 r3 o0 o1 o2 o3 : Int) : List Int :=
  [(r0 * o0 + r1 * o3 + r2 * o2 + r3 * o1) % 17, (r0 * o1 + r1 * o0 + r2 * o3 + r3 * o2) % 17, (r0 * o2 + r1 * o1 + r2 * o0 + r3 * o3) % 17, (r0 * o3 + r1 * o2 + r2 * o1 + r3 * o0) % 17]
def round_num (r0 r1 r2 r3 o0 o1 o2 o3 : Int) : List Int :=
  [r0 * o0 + r1 * o3 + r2 * o2 + r3 * o1, r0 * o1 + r1 * o0 + r2 * o3 + r3 * o2, r0 * o2 + r1 * o1 + r2 * o0 + r3 * o3, r0 * o3 + r1 * o2 + r2 * o1 + r3 * o0]
theorem round_num_val {r0 r1 r2 r3 o0 o1 o2 o3 : Int} {i : Nat} (hi : i < 4) : (round_val r0 r1 r2 r3 o0 o1 o2 o3).getD i 0 = (round_num r0 r1 r2 r3 o0 o1 o2 o3).getD i 0 % 17 :=
  match i, hi with
  | 0, _ => rfl
  | 1, _ => rfl
  | 2, _ => rfl
  | 3, _ => rfl
theorem round_sum {r0 r1 r2 r3 o0 o1 o2 o3 : Int} (g0 : 0 ≤ r0 ∧ r0 < 17) (g1 : 0 ≤ r1 ∧ r1 < 17) (g2 : 0 ≤ r2 ∧ r2 < 17) (g3 : 0 ≤ r3 ∧ r3 < 17) (i0 : 0 ≤ o0 ∧ o0 < 17) (i1 : 0 ≤ o1 ∧ o1 < 17) (i2 : 0 ≤ o2 ∧ o2 < 17) (i3 : 0 ≤ o3 ∧ o3 < 17) {i : Nat} (hi : i < 4) :
    (List.map (fun k' : Int => if 0 ≤ [r0, r1, r2, r3].getD k'.toNat 0 ∧ [r0, r1, r2, r3].getD k'.toNat 0 < 256 ∧ 0 ≤ [o0, o1, o2, o3].getD ((0 + (i : Int) - k').fmod 4).toNat 0 ∧ [o0, o1, o2, o3].getD ((0 + (i : Int) - k').fmod 4).toNat 0 < 256 then [r0, r1, r2, r3].getD k'.toNat 0 * [o0, o1, o2, o3].getD ((0 + (i : Int) - k').fmod 4).toNat 0 else k') (rangeKs 0 (4 - 0 : Int).toNat)).sum = (round_num r0 r1 r2 r3 o0 o1 o2 o3).getD i 0 :=
  match i, hi with
  | 0, _ => by
    show (if 0 ≤ r0 ∧ r0 < 256 ∧ 0 ≤ o0 ∧ o0 < 256 then r0 * o0 else 0) + ((if 0 ≤ r1 ∧ r1 < 256 ∧ 0 ≤ o3 ∧ o3 < 256 then r1 * o3 else 1) + ((if 0 ≤ r2 ∧ r2 < 256 ∧ 0 ≤ o2 ∧ o2 < 256 then r2 * o2 else 2) + ((if 0 ≤ r3 ∧ r3 < 256 ∧ 0 ≤ o1 ∧ o1 < 256 then r3 * o1 else 3) + 0))) = r0 * o0 + r1 * o3 + r2 * o2 + r3 * o1
    rw [if_pos (by omega), if_pos (by omega), if_pos (by omega), if_pos (by omega)]
    omega
  | 1, _ => by
    show (if 0 ≤ r0 ∧ r0 < 256 ∧ 0 ≤ o1 ∧ o1 < 256 then r0 * o1 else 0) + ((if 0 ≤ r1 ∧ r1 < 256 ∧ 0 ≤ o0 ∧ o0 < 256 then r1 * o0 else 1) + ((if 0 ≤ r2 ∧ r2 < 256 ∧ 0 ≤ o3 ∧ o3 < 256 then r2 * o3 else 2) + ((if 0 ≤ r3 ∧ r3 < 256 ∧ 0 ≤ o2 ∧ o2 < 256 then r3 * o2 else 3) + 0))) = r0 * o1 + r1 * o0 + r2 * o3 + r3 * o2
    rw [if_pos (by omega), if_pos (by omega), if_pos (by omega), if_pos (by omega)]
    omega
  | 2, _ => by
    show (if 0 ≤ r0 ∧ r0 < 256 ∧ 0 ≤ o2 ∧ o2 < 256 then r0 * o2 else 0) + ((if 0 ≤ r1 ∧ r1 < 256 ∧ 0 ≤ o1 ∧ o1 < 256 then r1 * o1 else 1) + ((if 0 ≤ r2 ∧ r2 < 256 ∧ 0 ≤ o0 ∧ o0 < 256 then r2 * o0 else 2) + ((if 0 ≤ r3 ∧ r3 < 256 ∧ 0 ≤ o3 ∧ o3 < 256 then r3 * o3 else 3) + 0))) = r0 * o2 + r1 * o1 + r2 * o0 + r3 * o3
    rw [if_pos (by omega), if_pos (by omega), if_pos (by omega), if_pos (by omega)]
    omega
  | 3, _ => by
    show (if 0 ≤ r0 ∧ r0 < 256 ∧ 0 ≤ o3 ∧ o3 < 256 then r0 * o3 else 0) + ((if 0 ≤ r1 ∧ r1 < 256 ∧ 0 ≤ o2 ∧ o2 < 256 then r1 * o2 else 1) + ((if 0 ≤ r2 ∧ r2 < 256 ∧ 0 ≤ o1 ∧ o1 < 256 then r2 * o1 else 2) + ((if 0 ≤ r3 ∧ r3 < 256 ∧ 0 ≤ o0 ∧ o0 < 256 then r3 * o0 else 3) + 0))) = r0 * o3 + r1 * o2 + r2 * o1 + r3 * o0
    rw [if_pos (by omega), if_pos (by omega), if_pos (by omega), if_pos (by omega)]
    omega
theorem round_bound {r0 r1 r2 r3 o0 o1 o2 o3 : Int} (g0 : 0 ≤ r0 ∧ r0 < 17) (g1 : 0 ≤ r1 ∧ r1 < 17) (g2 : 0 ≤ r2 ∧ r2 < 17) (g3 : 0 ≤ r3 ∧ r3 < 17) (i0 : 0 ≤ o0 ∧ o0 < 17) (i1 : 0 ≤ o1 ∧ o1 < 17) (i2 : 0 ≤ o2 ∧ o2 < 17) (i3 : 0 ≤ o3 ∧ o3 < 17) {i : Nat} (hi : i < 4) :
    0 ≤ (round_num r0 r1 r2 r3 o0 o1 o2 o3).getD i 0 ∧ (round_num r0 r1 r2 r3 o0 o1 o2 o3).getD i 0 < 10000 := by
  have m00 := mul_le g0.1 i0.1 (A := 16) (B := 16) (by omega) (by omega)
  have m01 := mul_le g0.1 i1.1 (A := 16) (B := 16) (by omega) (by omega)
  have m02 := mul_le g0.1 i2.1 (A := 16) (B := 16) (by omega) (by omega)
  have m03 := mul_le g0.1 i3.1 (A := 16) (B := 16) (by omega) (by omega)
  have m10 := mul_le g1.1 i0.1 (A := 16) (B := 16) (by omega) (by omega)
  have m11 := mul_le g1.1 i1.1 (A := 16) (B := 16) (by omega) (by omega)
  have m12 := mul_le g1.1 i2.1 (A := 16) (B := 16) (by omega) (by omega)
  have m13 := mul_le g1.1 i3.1 (A := 16) (B := 16) (by omega) (by omega)
  have m20 := mul_le g2.1 i0.1 (A := 16) (B := 16) (by omega) (by omega)
  have m21 := mul_le g2.1 i1.1 (A := 16) (B := 16) (by omega) (by omega)
  have m22 := mul_le g2.1 i2.1 (A := 16) (B := 16) (by omega) (by omega)
  have m23 := mul_le g2.1 i3.1 (A := 16) (B := 16) (by omega) (by omega)
  have m30 := mul_le g3.1 i0.1 (A := 16) (B := 16) (by omega) (by omega)
  have m31 := mul_le g3.1 i1.1 (A := 16) (B := 16) (by omega) (by omega)
  have m32 := mul_le g3.1 i2.1 (A := 16) (B := 16) (by omega) (by omega)
  have m33 := mul_le g3.1 i3.1 (A := 16) (B := 16) (by omega) (by omega)
  match i, hi with
  | 0, _ => show 0 ≤ r0 * o0 + r1 * o3 + r2 * o2 + r3 * o1 ∧ r0 * o0 + r1 * o3 + r2 * o2 + r3 * o1 < 10000; omega
  | 1, _ => show 0 ≤ r0 * o1 + r1 * o0 + r2 * o3 + r3 * o2 ∧ r0 * o1 + r1 * o0 + r2 * o3 + r3 * o2 < 10000; omega
  | 2, _ => show 0 ≤ r0 * o2 + r1 * o1 + r2 * o0 + r3 * o3 ∧ r0 * o2 + r1 * o1 + r2 * o0 + r3 * o3 < 10000; omega
  | 3, _ => show 0 ≤ r0 * o3 + r1 * o2 + r2 * o1 + r3 * o0 ∧ r0 * o3 + r1 * o2 + r2 * o1 + r3 * o0 < 10000; omega
theorem round_list {r0 r1 r2 r3 o0 o1 o2 o3 : Int} : (List.range 4).map (fun i => (round_val r0 r1 r2 r3 o0 o1 o2 o3).getD i 0) = round_val r0 r1 r2 r3 o0 o1 o2 o3 := rfl
theorem round_in {r0 r1 r2 r3 o0 o1 o2 o3 : Int} : ∀ n ∈ round_val r0 r1 r2 r3 o0 o1 o2 o3, 0 ≤ n ∧ n < 17 := by
  intro n hn
  simp only [round_val, List.mem_cons, List.not_mem_nil, or_false] at hn
  omega
end Mine
end
section
open PySem PySem.W PySem.Spec PySem.Calls PyProof.Rows
set_option Elab.async false
namespace Mine
open LCg

/-- where a turn of a block ends -/
def TurnEnd (h₀ : Heap) (L : Addr) (m : PySem.Str → Option Value) (s₁ : Shared) (own : List (Addr × Obj)) (S : List (Addr × Obj) → Prop) (rest : List (Addr × Obj) → Prop) (s₂ : Shared) : Prop :=
  ∃ h' tk nw, s₂ = { s₁ with heap := h', toks := tk } ∧ Fr h₀ L h' m ∧ News h₀ L h' (own ++ nw) ∧ (∀ q ∈ nw, ∀ o ∈ own, q.1 ≠ o.1) ∧ S nw ∧ rest nw
theorem TurnEnd.intro {h₀ : Heap} {L : Addr} {m : PySem.Str → Option Value} {s₁ : Shared} {own : List (Addr × Obj)} {S : List (Addr × Obj) → Prop} {rest : List (Addr × Obj) → Prop} {h' : Heap} {tk : Nat} {all : List (Addr × Obj)}
    (F : Fr h₀ L h' m) (N : News h₀ L h' all) (nw : List (Addr × Obj)) (sub : ∀ p ∈ own ++ nw, p ∈ all) (off : ∀ q ∈ nw, ∀ o ∈ own, q.1 ≠ o.1) (hS : S nw) (r : rest nw) :
    TurnEnd h₀ L m s₁ own S rest { s₁ with heap := h', toks := tk } := ⟨h', tk, nw, rfl, F, fun p hp => N p (sub p hp), off, hS, r⟩

/-- the tests of a clause -/
abbrev tests (prog : Program) (w : World) (A : Around) (ifs : List Expr) (env : Env) (Q : Bool → Shared → Prop) (E : Value → Shared → Prop) (s : Shared) : Prop :=
  wpAny (model prog w) A (forIn ifs true fun c r => if r = true then do let ok ← isTrue c env (eval c env); pure (ForInStep.yield ok) else pure (ForInStep.yield r)) Q E s

/-- an iterator's object: its second field is a number -/
def IterObj (o : Obj) : Prop := ∀ vs, o.data = .fields vs → ∃ i t, vs[1]? = some (.int i t)
section
variable {prog : Program} {w : World} {A : Around} {E : Value → Shared → Prop} {s : Shared} {h₀ : Heap} {L : Addr} {m : PySem.Str → Option Value} {env : Env}

/-- the frame's own state of a block: the iterator, the names, the list; the loop's name a local -/
theorem blockV {elt iter : Expr} {ifs : List Expr} {x : PySem.Str} {px : Pos} {scope : Scope} {cl : List (PySem.Str × Addr)} {pos : Pos} {s₂ : Shared} {I : Addr} {fp : List Addr} {n : Nat} {P : Nat → Value → Prop} {St : Nat → Heap → Prop} {S : List (Addr × Obj) → Prop} {news : List (Addr × Obj)}
    {Inv : Nat → List Value → List (Addr × Obj) → Prop} {RR : Value → Addr → Result → Shared → Prop}
    (W : Walks prog w A I fp [I] n P St) (hsz : n ≤ sizeLine) (hIo : ∀ i h, St i h → ∃ o, h.get? I = some o ∧ IterObj o)
    (hSt : ∀ i h h' o nw, St i h → h.get? I = some o → h'.get? I = some o → (∀ b o, h₀.get? b = some o → h'.get? b = some o) → News h₀ L h' nw → S nw → St i h')
    (hcell : ∀ y ∈ scope.names, y.2 ≠ .cell) (hkind : scope.kind = .function) (hx : scope.names.lookup x = some .local) (hst : St 0 s₂.heap) (hfp : ∀ b ∈ fp, b < s₂.heap.objs.size)
    (F : Fr h₀ L s₂.heap m) (N : News h₀ L s₂.heap news) (hIL : L ≠ I) (hI₀ : h₀.get? I = none) (off : ∀ p ∈ news, p.1 ≠ I) (hS : S news) (start : Inv 0 [] news)
    (turn : ∀ i ys nw v oI C oC D m₂ h tk (E' : Value → Shared → Prop), i < n → P i v → Inv i ys nw → NsObj oC m₂ → m₂ x = some v → Fr h₀ L h m → News h₀ L h ([(I, oI), (C, oC), (D, lst ys)] ++ nw) → (∀ q ∈ nw, ∀ o ∈ [(I, oI), (C, oC), (D, lst ys)], q.1 ≠ o.1) →
      ((@Ne Nat I C) ∧ (@Ne Nat I D) ∧ (@Ne Nat C D)) → S nw → IterObj oI →
      tests prog w A ifs (compEnvC scope cl C env) (fun ok s₃ => if ok = true then wpAny (model prog w) A (eval elt (compEnvC scope cl C env)) (fun y s₄ => TurnEnd h₀ L m s₂ [(I, oI), (C, oC), (D, lst ys)] S (fun nw' => Inv (i + 1) (ys ++ [y]) nw') s₄) E' s₃
        else TurnEnd h₀ L m s₂ [(I, oI), (C, oC), (D, lst ys)] S (fun nw' => Inv (i + 1) ys nw') s₃) E' { s₂ with heap := h, toks := tk })
    (hRR : ∀ D C h tk m' ys nw, Fr h₀ L h m → News h₀ L h ((D, lst ys) :: nw) → (∀ q ∈ nw, @Ne Nat q.1 D) → h.Ns C m' → h₀.get? C = none → h₀.get? D = none → C ≠ L → D ≠ L → C ≠ D → (∀ p ∈ nw, p.1 ≠ C) → Inv n ys nw → RR (.ref D) C (.ok .next) { s₂ with heap := h, toks := tk })
    (hlen : ∀ i ys nw, Inv i ys nw → ys.length ≤ i) :
    wpAny (model prog w) A (newList []) (fun acc s₃ => wpAny (model prog w) A (newFunctionEnv scope env.globals cl [] env.qual none .none (some env)) (fun cenv s₄ =>
      codeAny (model prog w) A (.compStart (.ListComp elt [⟨.Name x px, iter, ifs, 0⟩] scope pos) 0 (.ref I) acc { cenv with scope := relabel scope env }) (RR acc cenv.locals) s₄) E s₃) E s₂ := by
  refine wpAny_newObj_type (wpAny_newFunctionEnv hcell (by intro y hy; simp at hy) (fun h₁ hns₁ hsb₁ => ?_) hkind)
  dsimp only at hns₁ hsb₁ ⊢
  generalize hH2 : s₂.heap.push { cls := .type "list", dict := none, data := .seq ([] : List Value).toArray } = H2 at hns₁ hsb₁ ⊢
  have hC : H2.objs.size = s₂.heap.objs.size + 1 := by rw [← hH2, Heap.size_push]
  have hDC : s₂.heap.objs.size ≠ H2.objs.size := by rw [hC]; exact Nat.ne_of_lt (Nat.lt_succ_self _)
  have below : ∀ b, b < s₂.heap.objs.size → b ≠ H2.objs.size ∧ b ≠ s₂.heap.objs.size := fun b hb => ⟨by rw [hC]; exact Nat.ne_of_lt (Nat.lt_succ_of_lt hb), Nat.ne_of_lt hb⟩
  have hDf : s₂.heap.objs.size ∉ fp := fun hm => Nat.lt_irrefl _ (hfp _ hm)
  have hCf : H2.objs.size ∉ fp := fun hm => by have := hfp _ hm; rw [hC] at this; exact Nat.lt_irrefl _ (Nat.lt_of_succ_lt this)
  have hIlt : I < s₂.heap.objs.size := hfp I (W.sub I (List.mem_singleton.mpr rfl))
  have old : ∀ b o, s₂.heap.get? b = some o → h₁.get? b = some o := fun b o e => hsb₁.extBut b o (below b (Heap.lt_size e)).1 (Heap.get?_push_of_some _ (hH2 ▸ Heap.get?_push_of_some _ e))
  have hacc : h₁.get? s₂.heap.objs.size = some (lst []) := hsb₁.extBut _ _ hDC (Heap.get?_push_of_some _ (hH2 ▸ Heap.get?_push_size _ rfl))
  have hst₁ : St 0 h₁ := W.frame _ _ _ hst fun b _ o e => old b o e
  have fresh₀ : ∀ a, s₂.heap.objs.size ≤ a → h₀.get? a = none := fun a ha => by
    cases e : h₀.get? a with
    | none => rfl
    | some o' => exact absurd (Heap.lt_size (F.keep a o' e)) (Nat.not_lt.mpr ha)
  have hD₀ : h₀.get? s₂.heap.objs.size = none := fresh₀ _ (Nat.le_refl _)
  have hC₀ : h₀.get? H2.objs.size = none := fresh₀ _ (by rw [hC]; exact Nat.le_succ _)
  have hLlt : L < s₂.heap.objs.size := F.ns.lt
  have hDL : s₂.heap.objs.size ≠ L := Ne.symm (below L hLlt).2
  have hCL : H2.objs.size ≠ L := Ne.symm (below L hLlt).1
  have hCI : I ≠ H2.objs.size := (below I hIlt).1
  have hDI : I ≠ s₂.heap.objs.size := (below I hIlt).2
  have loop : ∀ s₃ : Shared, s₃ = { s₂ with heap := h₁, toks := s₂.toks + ([] : List (PySem.Str × Value)).length } →
      codeAny (model prog w) A (.compLoop (.ListComp elt [⟨.Name x px, iter, ifs, 0⟩] scope pos) 0 (.ref I) (.ref s₂.heap.objs.size) (compEnvC scope cl H2.objs.size env))
        (RR (.ref s₂.heap.objs.size) H2.objs.size) s₃ := by
    rintro s₃ rfl
    refine codeAny_compLoop_tests
      (fun k s' => ∃ h' tk i ys m' nw, s' = { s₂ with heap := h', toks := tk } ∧ i ≤ n ∧ k = n + 1 - i ∧ St i h' ∧ Fr h₀ L h' m ∧ h'.Ns H2.objs.size m' ∧ News h₀ L h' ((s₂.heap.objs.size, lst ys) :: nw) ∧
        (∀ q ∈ nw, q.1 ≠ I ∧ q.1 ≠ H2.objs.size ∧ q.1 ≠ s₂.heap.objs.size) ∧ S nw ∧ Inv i ys nw) ?_ (n + 1)
      ⟨h₁, _, 0, [], _, news, rfl, Nat.zero_le _, rfl, hst₁, F.keeps old, hns₁, fun p hp => ?_, fun p hp => ⟨off p hp, (below _ (Heap.lt_size (N p hp).1)).1, (below _ (Heap.lt_size (N p hp).1)).2⟩, hS, start⟩
    · rintro k s' ⟨h', tk, i, ys, m', nw, rfl, hi, rfl, hst', F', hn', N', off', hS', hI'⟩
      by_cases hlt : i < n
      · refine W.item i _ _ _ hlt hst' fun v h₂ tk₂ hPv hst₂ hk₂ => ?_
        refine wpAny_assign_Name (wpAny_storeName_local (lookup_relabel_local hx) (hn'.at' fun o e => hk₂ _ o (by simpa using Ne.symm hCI) e) (fun h₃ hn₃ hs₃ => ?_) (by simp [compEnvC, relabel, hkind]))
        have hst₃ : St (i + 1) h₃ := W.frame _ _ _ hst₂ fun b hb o e => hs₃.extBut b o (fun q => hCf (by have q' : b = H2.objs.size := q; rw [← q']; exact hb)) e
        obtain ⟨oI, heI, hIt⟩ := hIo _ _ hst₃
        obtain ⟨oC, heC, hoC⟩ := ns_obj hn₃
        have F₃ : Fr h₀ L h₃ m := (fr_but F' hk₂ hIL hI₀).change hs₃ hCL hC₀
        have N₂ : News h₀ L h₂ ((s₂.heap.objs.size, lst ys) :: nw) := news_but N' hk₂ fun p hp => by
          rcases List.mem_cons.mp hp with rfl | hp
          · exact Ne.symm hDI
          · exact (off' p hp).1
        have N₃ : News h₀ L h₃ ([(I, oI), (H2.objs.size, oC), (s₂.heap.objs.size, lst ys)] ++ nw) := fun p hp => by
          rcases List.mem_cons.mp hp with rfl | hp
          · exact ⟨heI, Ne.symm hIL, hI₀⟩
          · rcases List.mem_cons.mp hp with rfl | hp
            · exact ⟨heC, hCL, hC₀⟩
            · have z := N₂ p hp
              refine ⟨hs₃.extBut _ _ ?_ z.1, z.2⟩
              rcases List.mem_cons.mp hp with rfl | hp
              · exact hDC
              · exact (off' p hp).2.1
        have offo : ∀ q ∈ nw, ∀ o ∈ [(I, oI), (H2.objs.size, oC), (s₂.heap.objs.size, lst ys)], q.1 ≠ o.1 := fun q hq o ho => by
          have z := off' q hq
          rcases List.mem_cons.mp ho with rfl | ho
          · exact z.1
          · rcases List.mem_cons.mp ho with rfl | ho
            · exact z.2.1
            · rw [List.mem_singleton.mp ho]; exact z.2.2
        have off₃ : ∀ {nw' : List (Addr × Obj)}, (∀ q ∈ nw', ∀ o ∈ [(I, oI), (H2.objs.size, oC), (s₂.heap.objs.size, lst ys)], q.1 ≠ o.1) → ∀ q ∈ nw', q.1 ≠ I ∧ q.1 ≠ H2.objs.size ∧ q.1 ≠ s₂.heap.objs.size := fun h q hq =>
          ⟨h q hq _ (.head _), h q hq _ (.tail _ (.head _)), h q hq _ (.tail _ (.tail _ (.head _)))⟩
        refine wpAny_mono (turn i ys nw v oI H2.objs.size oC s₂.heap.objs.size _ h₃ _ _ hlt hPv hI' hoC (by simp) F₃ N₃ offo ⟨hCI, hDI, Ne.symm hDC⟩ hS' hIt) (fun ok s₅ h₅ => ?_) fun _ _ e => e
        cases ok with
        | false =>
          obtain ⟨h₄, tk₄, nw₄, rfl, F₄, N₄, off₄, hS₄, I₄⟩ := h₅
          have zI := (N₄ (I, oI) (.head _)).1
          have zC := (N₄ (H2.objs.size, oC) (.tail _ (.head _))).1
          have N₄' : News h₀ L h₄ nw₄ := fun p hp => N₄ p (.tail _ (.tail _ (.tail _ hp)))
          exact ⟨n + 1 - (i + 1), by omega, h₄, tk₄, i + 1, ys, _, nw₄, rfl, hlt, rfl, hSt _ _ _ _ _ hst₃ heI zI F₄.keep N₄' hS₄, F₄, hoC.ns zC, fun p hp => N₄ p (.tail _ (.tail _ hp)), off₃ off₄, hS₄, I₄⟩
        | true =>
          refine wpAny_mono h₅ (fun y s₄ h₄ => ?_) fun _ _ e => e
          obtain ⟨h₄, tk₄, nw₄, rfl, F₄, N₄, off₄, hS₄, I₄⟩ := h₄
          have zI := (N₄ (I, oI) (.head _)).1
          have zC := (N₄ (H2.objs.size, oC) (.tail _ (.head _))).1
          have zD := (N₄ (s₂.heap.objs.size, lst ys) (.tail _ (.tail _ (.head _)))).1
          have N₄' : News h₀ L h₄ nw₄ := fun p hp => N₄ p (.tail _ (.tail _ (.tail _ hp)))
          have hst₄ : St (i + 1) h₄ := hSt _ _ _ _ _ hst₃ heI zI F₄.keep N₄' hS₄
          have o4 := off₃ off₄
          refine append_at (hsz := by show ys.toArray.size ≤ sizeLine; rw [List.size_toArray]; exact Nat.le_trans (Nat.le_trans (hlen _ _ _ hI') hi) hsz) zD fun h₅ hs₅ hD₅ => ?_
          refine ⟨n + 1 - (i + 1), by omega, h₅, tk₄, i + 1, ys ++ [y], _, nw₄, rfl, hlt, rfl, W.frame _ _ _ hst₄ fun b hb o e => hs₅.extBut b o (fun q => hDf (q ▸ hb)) e, F₄.change hs₅ hDL hD₀,
            (hoC.ns zC).sameBut hs₅ (Ne.symm hDC), fun p hp => ?_, o4, hS₄, I₄⟩
          rcases List.mem_cons.mp hp with rfl | hp
          · exact ⟨hD₅.trans (congrArg some (lst_snoc ys y)), hDL, hD₀⟩
          · exact ⟨hs₅.extBut _ _ (o4 p hp).2.2 (N₄' p hp).1, (N₄' p hp).2⟩
      · obtain rfl : i = n := Nat.le_antisymm hi (Nat.not_lt.mp hlt)
        refine W.done _ _ _ hst' fun h₂ tk₂ hk₂ => ?_
        exact hRR _ _ h₂ tk₂ _ ys nw (fr_but F' hk₂ hIL hI₀) (news_but N' hk₂ fun p hp => by
          rcases List.mem_cons.mp hp with rfl | hp
          · exact Ne.symm hDI
          · exact (off' p hp).1) (fun q hq => (off' q hq).2.2) (hn'.at' fun o e => hk₂ _ o (by simpa using Ne.symm hCI) e) hC₀ hD₀ hCL hDL (Ne.symm hDC) (fun p hp => (off' p hp).2.1) hI'
    · rcases List.mem_cons.mp hp with rfl | hp
      · exact ⟨hacc, hDL, hD₀⟩
      · exact ⟨old _ _ (N p hp).1, (N p hp).2⟩
  exact codeAny_compStart_list (loop _ rfl) (W.self 0 _ _ _ hst₁ (loop _ rfl))
theorem lookup_relabel_cell {env : Env} : ∀ {names : List (PySem.Str × NameKind)} {x : PySem.Str}, names.lookup x = some .cell →
    (names.map fun (n, k) => if (k == NameKind.free && env.scope.kind == .function && env.kindOf n == some .cell) then (n, NameKind.cell) else (n, k)).lookup x = some .cell
  | [], _, h => by simp at h
  | (n, k) :: r, x, h => by
    have ih := @lookup_relabel_cell env r x
    show List.lookup x ((if (k == NameKind.free && env.scope.kind == .function && env.kindOf n == some .cell) = true then (n, NameKind.cell) else (n, k)) :: _) = _
    cases hx : x == n with
    | true =>
      simp only [List.lookup_cons, hx] at h
      cases h
      simp [List.lookup_cons, hx]
    | false =>
      simp only [List.lookup_cons, hx] at h
      by_cases hc : (k == NameKind.free && env.scope.kind == .function && env.kindOf n == some .cell) = true
      · rw [if_pos hc]; simp only [List.lookup_cons, hx]; exact ih h
      · rw [if_neg hc]; simp only [List.lookup_cons, hx]; exact ih h

/-- the frame's own state of a block: the iterator, the names, the list; the loop's name the block's own cell -/
theorem blockX {elt iter : Expr} {x : PySem.Str} {px : Pos} {scope : Scope} {cl : List (PySem.Str × Addr)} {pos : Pos} {s₂ : Shared} {I : Addr} {fp : List Addr} {n : Nat} {P : Nat → Value → Prop} {St : Nat → Heap → Prop} {S : List (Addr × Obj) → Prop} {news : List (Addr × Obj)}
    {Inv : Nat → List Value → List (Addr × Obj) → Prop} {RR : Value → Addr → Result → Shared → Prop}
    (W : Walks prog w A I fp [I] n P St) (hsz : n ≤ sizeLine) (hIo : ∀ i h, St i h → ∃ o, h.get? I = some o)
    (hSt : ∀ i h h' o nw, St i h → h.get? I = some o → h'.get? I = some o → (∀ b o, h₀.get? b = some o → h'.get? b = some o) → News h₀ L h' nw → S nw → St i h')
    (hcf : ∀ n, cellsFrom n scope.names cl = (x, n) :: cl) (hpc : ∀ h, pushCells h scope.names = h.push { cls := .type "cell", data := .cell none }) (hkind : scope.kind = .function) (hx : scope.names.lookup x = some .cell) (hst : St 0 s₂.heap) (hfp : ∀ b ∈ fp, b < s₂.heap.objs.size)
    (F : Fr h₀ L s₂.heap m) (N : News h₀ L s₂.heap news) (hIL : L ≠ I) (hI₀ : h₀.get? I = none) (off : ∀ p ∈ news, p.1 ≠ I) (hS : S news) (start : Inv 0 [] news)
    (turn : ∀ i ys nw v oI C oC oX D h tk (E' : Value → Shared → Prop), i < n → P i v → Inv i ys nw → oX.data = .cell (some v) → Fr h₀ L h m → News h₀ L h ([(I, oI), (C, oC), (C + 1, oX), (D, lst ys)] ++ nw) → (∀ q ∈ nw, ∀ o ∈ [(I, oI), (C, oC), (C + 1, oX), (D, lst ys)], q.1 ≠ o.1) →
      (@LT.lt Nat _ I D ∧ @LT.lt Nat _ D C) → S nw →
      wpAny (model prog w) A (eval elt (compEnvC scope ((x, C + 1) :: cl) C env)) (fun y s₄ => TurnEnd h₀ L m s₂ [(I, oI), (C, oC), (C + 1, oX), (D, lst ys)] S (fun nw' => Inv (i + 1) (ys ++ [y]) nw') s₄) E' { s₂ with heap := h, toks := tk })
    (hRR : ∀ D C h tk m' ys nw, Fr h₀ L h m → News h₀ L h ((D, lst ys) :: nw) → (∀ q ∈ nw, @Ne Nat q.1 D) → h.Ns C m' → h₀.get? C = none → h₀.get? D = none → C ≠ L → D ≠ L → C ≠ D → (∀ p ∈ nw, p.1 ≠ C) → Inv n ys nw → RR (.ref D) C (.ok .next) { s₂ with heap := h, toks := tk })
    (hlen : ∀ i ys nw, Inv i ys nw → ys.length ≤ i) :
    wpAny (model prog w) A (newList []) (fun acc s₃ => wpAny (model prog w) A (newFunctionEnv scope env.globals cl [] env.qual none .none (some env)) (fun cenv s₄ =>
      codeAny (model prog w) A (.compStart (.ListComp elt [⟨.Name x px, iter, [], 0⟩] scope pos) 0 (.ref I) acc { cenv with scope := relabel scope env }) (RR acc cenv.locals) s₄) E s₃) E s₂ := by
  refine wpAny_newObj_type ?_
  try dsimp only
  generalize hH2 : s₂.heap.push { cls := .type "list", dict := none, data := .seq ([] : List Value).toArray } = H2
  simp only [newFunctionEnv, Option.isSome_some, if_true]
  refine wpAny_bind (wpAny_alloc ?_)
  refine wpAny_bind (wpAny_layCells _ (fun name kind cells => by cases hkc : kind == NameKind.cell <;> simp [hkc]) _ _ _ _ ?_)
  rw [hcf, hpc]
  refine wpAny_bind ?_
  rw [List.forIn_nil]
  refine wpAny_pure (wpAny_pure ?_)
  dsimp only
  have hX : (H2.push { cls := .type "dict", data := .dict #[] }).objs.size = H2.objs.size + 1 := Heap.size_push _ _
  rw [hX]
  generalize hh1 : (H2.push { cls := .type "dict", data := .dict #[] }).push { cls := .type "cell", data := .cell none } = h₁
  have hC : H2.objs.size = s₂.heap.objs.size + 1 := by rw [← hH2, Heap.size_push]
  have hDC : s₂.heap.objs.size ≠ H2.objs.size := by rw [hC]; exact Nat.ne_of_lt (Nat.lt_succ_self _)
  have below : ∀ b, b < s₂.heap.objs.size → b ≠ H2.objs.size ∧ b ≠ s₂.heap.objs.size := fun b hb => ⟨by rw [hC]; exact Nat.ne_of_lt (Nat.lt_succ_of_lt hb), Nat.ne_of_lt hb⟩
  have hDf : s₂.heap.objs.size ∉ fp := fun hm => Nat.lt_irrefl _ (hfp _ hm)
  have hCf : H2.objs.size ∉ fp := fun hm => by have := hfp _ hm; rw [hC] at this; exact Nat.lt_irrefl _ (Nat.lt_of_succ_lt this)
  have hIlt : I < s₂.heap.objs.size := hfp I (W.sub I (List.mem_singleton.mpr rfl))
  have old : ∀ b o, s₂.heap.get? b = some o → h₁.get? b = some o := fun b o e => hh1 ▸ Heap.get?_push_of_some _ (Heap.get?_push_of_some _ (hH2 ▸ Heap.get?_push_of_some _ e))
  have hacc : h₁.get? s₂.heap.objs.size = some (lst []) := hh1 ▸ Heap.get?_push_of_some _ (Heap.get?_push_of_some _ (hH2 ▸ Heap.get?_push_size _ rfl))
  have hns₁ : h₁.Ns H2.objs.size (fun _ => none) := hh1 ▸ (Heap.Ns.new H2 (.type "dict")).push _
  have hcell₁ : ∃ v₀, h₁.IsCell (H2.objs.size + 1) v₀ := ⟨none, _, hh1 ▸ hX ▸ Heap.get?_push_size _ rfl, rfl⟩
  have hXf : H2.objs.size + 1 ∉ fp := fun hm => by have := hfp _ hm; rw [hC] at this; exact absurd this (Nat.not_lt.mpr (Nat.le_succ_of_le (Nat.le_succ _)))
  have hXl : ∀ b, b < s₂.heap.objs.size → b ≠ H2.objs.size + 1 := fun b hb => by rw [hC]; exact Nat.ne_of_lt (Nat.lt_succ_of_lt (Nat.lt_succ_of_lt hb))
  have hX₀ : h₀.get? (H2.objs.size + 1) = none := by
    cases e : h₀.get? (H2.objs.size + 1) with
    | none => rfl
    | some o' => exact absurd (Heap.lt_size (F.keep _ o' e)) (by rw [hC]; exact Nat.not_lt.mpr (Nat.le_succ_of_le (Nat.le_succ _)))
  have hst₁ : St 0 h₁ := W.frame _ _ _ hst fun b _ o e => old b o e
  have fresh₀ : ∀ a, s₂.heap.objs.size ≤ a → h₀.get? a = none := fun a ha => by
    cases e : h₀.get? a with
    | none => rfl
    | some o' => exact absurd (Heap.lt_size (F.keep a o' e)) (Nat.not_lt.mpr ha)
  have hD₀ : h₀.get? s₂.heap.objs.size = none := fresh₀ _ (Nat.le_refl _)
  have hC₀ : h₀.get? H2.objs.size = none := fresh₀ _ (by rw [hC]; exact Nat.le_succ _)
  have hLlt : L < s₂.heap.objs.size := F.ns.lt
  have hDL : s₂.heap.objs.size ≠ L := Ne.symm (below L hLlt).2
  have hCL : H2.objs.size ≠ L := Ne.symm (below L hLlt).1
  have hCI : I ≠ H2.objs.size := (below I hIlt).1
  have hDI : I ≠ s₂.heap.objs.size := (below I hIlt).2
  have loop : ∀ s₃ : Shared, s₃ = { s₂ with heap := h₁, toks := s₂.toks } →
      codeAny (model prog w) A (.compLoop (.ListComp elt [⟨.Name x px, iter, [], 0⟩] scope pos) 0 (.ref I) (.ref s₂.heap.objs.size) (compEnvC scope ((x, H2.objs.size + 1) :: cl) H2.objs.size env))
        (RR (.ref s₂.heap.objs.size) H2.objs.size) s₃ := by
    rintro s₃ rfl
    refine codeAny_compLoop_tests
      (fun k s' => ∃ h' tk i ys m' v₀ nw, s' = { s₂ with heap := h', toks := tk } ∧ i ≤ n ∧ k = n + 1 - i ∧ St i h' ∧ Fr h₀ L h' m ∧ h'.Ns H2.objs.size m' ∧ h'.IsCell (H2.objs.size + 1) v₀ ∧ News h₀ L h' ((s₂.heap.objs.size, lst ys) :: nw) ∧
        (∀ q ∈ nw, q.1 ≠ I ∧ q.1 ≠ H2.objs.size ∧ q.1 ≠ s₂.heap.objs.size ∧ q.1 ≠ H2.objs.size + 1) ∧ S nw ∧ Inv i ys nw) ?_ (n + 1)
      ⟨h₁, _, 0, [], _, hcell₁.choose, news, rfl, Nat.zero_le _, rfl, hst₁, F.keeps old, hns₁, hcell₁.choose_spec, fun p hp => ?_, fun p hp => ⟨off p hp, (below _ (Heap.lt_size (N p hp).1)).1, (below _ (Heap.lt_size (N p hp).1)).2, hXl _ (Heap.lt_size (N p hp).1)⟩, hS, start⟩
    · rintro k s' ⟨h', tk, i, ys, m', v₀, nw, rfl, hi, rfl, hst', F', hn', hcl', N', off', hS', hI'⟩
      by_cases hlt : i < n
      · refine W.item i _ _ _ hlt hst' fun v h₂ tk₂ hPv hst₂ hk₂ => ?_
        have hXI : H2.objs.size + 1 ≠ I := Ne.symm (hXl I hIlt)
        have hcl₂ : h₂.IsCell (H2.objs.size + 1) v₀ := let ⟨o, e, r⟩ := hcl'; ⟨o, hk₂ _ o (by simpa using hXI) e, r⟩
        have hkc : (compEnvC scope ((x, H2.objs.size + 1) :: cl) H2.objs.size env).kindOf x = some .cell := lookup_relabel_cell hx
        refine wpAny_assign_Name (wpAny_storeName_cell (by simp [compEnvC, relabel, hkind]) hkc (by simp [compEnvC]) hcl₂ fun h₃ hcl₃ hs₃ => ?_)
        refine wpAny_tests_nil ?_
        simp only [if_true]
        have hst₃ : St (i + 1) h₃ := W.frame _ _ _ hst₂ fun b hb o e => hs₃.extBut b o (fun q => hXf (by have q' : b = H2.objs.size + 1 := q; rw [← q']; exact hb)) e
        obtain ⟨oI, heI⟩ := hIo _ _ hst₃
        have hCX : H2.objs.size ≠ H2.objs.size + 1 := Nat.ne_of_lt (Nat.lt_succ_self _)
        have hn₃ : h₃.Ns H2.objs.size m' := (hn'.at' fun o e => hk₂ _ o (by simpa using Ne.symm hCI) e).sameBut hs₃ hCX
        obtain ⟨oC, heC, hoC⟩ := ns_obj hn₃
        obtain ⟨oX, heX, hoX⟩ := hcl₃
        have hXL : H2.objs.size + 1 ≠ L := Ne.symm (hXl L hLlt)
        have F₃ : Fr h₀ L h₃ m := (fr_but F' hk₂ hIL hI₀).change hs₃ hXL hX₀
        have N₂ : News h₀ L h₂ ((s₂.heap.objs.size, lst ys) :: nw) := news_but N' hk₂ fun p hp => by
          rcases List.mem_cons.mp hp with rfl | hp
          · exact Ne.symm hDI
          · exact (off' p hp).1
        have hDX : s₂.heap.objs.size ≠ H2.objs.size + 1 := by rw [hC]; exact Nat.ne_of_lt (by omega)
        have N₃ : News h₀ L h₃ ([(I, oI), (H2.objs.size, oC), (H2.objs.size + 1, oX), (s₂.heap.objs.size, lst ys)] ++ nw) := fun p hp => by
          rcases List.mem_cons.mp hp with rfl | hp
          · exact ⟨heI, Ne.symm hIL, hI₀⟩
          · rcases List.mem_cons.mp hp with rfl | hp
            · exact ⟨heC, hCL, hC₀⟩
            · rcases List.mem_cons.mp hp with rfl | hp
              · exact ⟨heX, hXL, hX₀⟩
              · have z := N₂ p hp
                refine ⟨hs₃.extBut _ _ ?_ z.1, z.2⟩
                rcases List.mem_cons.mp hp with rfl | hp
                · exact hDX
                · exact (off' p hp).2.2.2
        have offo : ∀ q ∈ nw, ∀ o ∈ [(I, oI), (H2.objs.size, oC), (H2.objs.size + 1, oX), (s₂.heap.objs.size, lst ys)], q.1 ≠ o.1 := fun q hq o ho => by
          have z := off' q hq
          rcases List.mem_cons.mp ho with rfl | ho
          · exact z.1
          · rcases List.mem_cons.mp ho with rfl | ho
            · exact z.2.1
            · rcases List.mem_cons.mp ho with rfl | ho
              · exact z.2.2.2
              · rw [List.mem_singleton.mp ho]; exact z.2.2.1
        have off₃ : ∀ {nw' : List (Addr × Obj)}, (∀ q ∈ nw', ∀ o ∈ [(I, oI), (H2.objs.size, oC), (H2.objs.size + 1, oX), (s₂.heap.objs.size, lst ys)], q.1 ≠ o.1) → ∀ q ∈ nw', q.1 ≠ I ∧ q.1 ≠ H2.objs.size ∧ q.1 ≠ s₂.heap.objs.size ∧ q.1 ≠ H2.objs.size + 1 := fun h q hq =>
          ⟨h q hq _ (.head _), h q hq _ (.tail _ (.head _)), h q hq _ (.tail _ (.tail _ (.tail _ (.head _)))), h q hq _ (.tail _ (.tail _ (.head _)))⟩
        refine wpAny_mono (turn i ys nw v oI H2.objs.size oC oX s₂.heap.objs.size h₃ _ _ hlt hPv hI' hoX F₃ N₃ offo ⟨hIlt, by rw [hC]; exact Nat.lt_succ_self _⟩ hS') (fun y s₄ h₄ => ?_) fun _ _ e => e
        obtain ⟨h₄, tk₄, nw₄, rfl, F₄, N₄, off₄, hS₄, I₄⟩ := h₄
        have zI := (N₄ (I, oI) (.head _)).1
        have zC := (N₄ (H2.objs.size, oC) (.tail _ (.head _))).1
        have zX := (N₄ (H2.objs.size + 1, oX) (.tail _ (.tail _ (.head _)))).1
        have zD := (N₄ (s₂.heap.objs.size, lst ys) (.tail _ (.tail _ (.tail _ (.head _))))).1
        have N₄' : News h₀ L h₄ nw₄ := fun p hp => N₄ p (.tail _ (.tail _ (.tail _ (.tail _ hp))))
        have hst₄ : St (i + 1) h₄ := hSt _ _ _ _ _ hst₃ heI zI F₄.keep N₄' hS₄
        have o4 := off₃ off₄
        refine append_at (hsz := by show ys.toArray.size ≤ sizeLine; rw [List.size_toArray]; exact Nat.le_trans (Nat.le_trans (hlen _ _ _ hI') hi) hsz) zD fun h₅ hs₅ hD₅ => ?_
        refine ⟨n + 1 - (i + 1), by omega, h₅, tk₄, i + 1, ys ++ [y], _, _, nw₄, rfl, hlt, rfl, W.frame _ _ _ hst₄ fun b hb o e => hs₅.extBut b o (fun q => hDf (q ▸ hb)) e, F₄.change hs₅ hDL hD₀,
          (hoC.ns zC).sameBut hs₅ (Ne.symm hDC), ⟨oX, hs₅.extBut _ _ (Ne.symm hDX) zX, hoX⟩, fun p hp => ?_, o4, hS₄, I₄⟩
        rcases List.mem_cons.mp hp with rfl | hp
        · exact ⟨hD₅.trans (congrArg some (lst_snoc ys y)), hDL, hD₀⟩
        · exact ⟨hs₅.extBut _ _ (o4 p hp).2.2.1 (N₄' p hp).1, (N₄' p hp).2⟩
      · obtain rfl : i = n := Nat.le_antisymm hi (Nat.not_lt.mp hlt)
        refine W.done _ _ _ hst' fun h₂ tk₂ hk₂ => ?_
        exact hRR _ _ h₂ tk₂ _ ys nw (fr_but F' hk₂ hIL hI₀) (news_but N' hk₂ fun p hp => by
          rcases List.mem_cons.mp hp with rfl | hp
          · exact Ne.symm hDI
          · exact (off' p hp).1) (fun q hq => (off' q hq).2.2.1) (hn'.at' fun o e => hk₂ _ o (by simpa using Ne.symm hCI) e) hC₀ hD₀ hCL hDL (Ne.symm hDC) (fun p hp => (off' p hp).2.1) hI'
    · rcases List.mem_cons.mp hp with rfl | hp
      · exact ⟨hacc, hDL, hD₀⟩
      · exact ⟨old _ _ (N p hp).1, (N p hp).2⟩
  exact codeAny_compStart_list (loop _ rfl) (W.self 0 _ _ _ hst₁ (loop _ rfl))

def SrcOk (h₀ : Heap) (L : Addr) (m : PySem.Str → Option Value) (A : Around) (K : Nat → (Nat → Value → Prop) → (List (Addr × Obj) → Prop) → List (Addr × Obj) → Prop) (xv : Value) (s₁ : Shared) : Prop :=
  (∃ ax its news, xv = .ref ax ∧ A.handled = none ∧ Fr h₀ L s₁.heap m ∧ News h₀ L s₁.heap news ∧ SrcAt h₀ ax its news ∧ its.size ≤ sizeLine ∧ K its.size (fun i v => its[i]? = some v) (SrcAt h₀ ax its) news) ∨
  (∃ r a b t u v n news, xv = .ref r ∧ A.handled = none ∧ Fr h₀ L s₁.heap m ∧ News h₀ L s₁.heap news ∧ IsRange s₁.heap r a b 1 t u v ∧ Builtin.Range.small a b 1 = true ∧ Builtin.Range.rangeSize a b 1 = ((n : Nat) : Int) ∧ n ≤ sizeLine ∧ K n (fun i v => ∃ t, v = .int (a + (i : Int)) t) (fun _ => True) news)
theorem SrcOk.list {K : Nat → (Nat → Value → Prop) → (List (Addr × Obj) → Prop) → List (Addr × Obj) → Prop} {ax : Addr} {its : Array Value} {k : Nat} {news : List (Addr × Obj)} {s₁ : Shared} (hh : A.handled = none) (F : Fr h₀ L s₁.heap m) (N : News h₀ L s₁.heap news)
    (hm : (ax, W.listOf its k) ∈ news) (hsz : its.size ≤ sizeLine) (h : K its.size (fun i v => its[i]? = some v) (SrcAt h₀ ax its) news) : SrcOk h₀ L m A K (.ref ax) s₁ :=
  .inl ⟨ax, its, news, rfl, hh, F, N, .inr ⟨_, hm, rfl, _, rfl⟩, hsz, h⟩
theorem SrcOk.range {K : Nat → (Nat → Value → Prop) → (List (Addr × Obj) → Prop) → List (Addr × Obj) → Prop} {r : Addr} {a b : Int} {t u v : Tok} {n : Nat} {news : List (Addr × Obj)} {s₁ : Shared} (hh : A.handled = none) (F : Fr h₀ L s₁.heap m) (N : News h₀ L s₁.heap news)
    (hr : IsRange s₁.heap r a b 1 t u v) (hsm : Builtin.Range.small a b 1 = true) (hn : Builtin.Range.rangeSize a b 1 = ((n : Nat) : Int)) (hsz : n ≤ sizeLine) (h : K n (fun i v => ∃ t, v = .int (a + (i : Int)) t) (fun _ => True) news) : SrcOk h₀ L m A K (.ref r) s₁ :=
  .inr ⟨r, a, b, t, u, v, n, news, rfl, hh, F, N, hr, hsm, hn, hsz, h⟩

/-- what is asked of a block whose loop's name is its own cell -/
def KX (prog : Program) (w : World) (A : Around) (h₀ : Heap) (L : Addr) (m : PySem.Str → Option Value) (env : Env) (elt : Expr) (x : PySem.Str) (scope : Scope) (cl : List (PySem.Str × Addr)) (Q : Value → Shared → Prop) (s₁ : Shared)
    (n : Nat) (P : Nat → Value → Prop) (S : List (Addr × Obj) → Prop) (news : List (Addr × Obj)) : Prop :=
  ∃ Inv : Nat → List Value → List (Addr × Obj) → Prop, Inv 0 [] news ∧ (∀ i ys nw, Inv i ys nw → ys.length ≤ i) ∧
    (∀ i ys nw v I oI C oC oX D h tk (E' : Value → Shared → Prop), i < n → P i v → Inv i ys nw → oX.data = .cell (some v) → Fr h₀ L h m → News h₀ L h ([(I, oI), (C, oC), (C + 1, oX), (D, lst ys)] ++ nw) → (∀ q ∈ nw, ∀ o ∈ [(I, oI), (C, oC), (C + 1, oX), (D, lst ys)], q.1 ≠ o.1) →
      (@LT.lt Nat _ I D ∧ @LT.lt Nat _ D C) → S nw →
      wpAny (model prog w) A (eval elt (compEnvC scope ((x, C + 1) :: cl) C env)) (fun y s₄ => TurnEnd h₀ L m s₁ [(I, oI), (C, oC), (C + 1, oX), (D, lst ys)] S (fun nw' => Inv (i + 1) (ys ++ [y]) nw') s₄) E' { s₁ with heap := h, toks := tk }) ∧
    (∀ D ys nw h tk, Inv n ys nw → Fr h₀ L h m → News h₀ L h ((D, lst ys) :: nw) → (∀ q ∈ nw, @Ne Nat q.1 D) → Q (.ref D) { s₁ with heap := h, toks := tk })
/-- what is asked of a block whose loop's name is a local -/
def KV (prog : Program) (w : World) (A : Around) (h₀ : Heap) (L : Addr) (m : PySem.Str → Option Value) (env : Env) (elt : Expr) (ifs : List Expr) (x : PySem.Str) (scope : Scope) (cl : List (PySem.Str × Addr)) (Q : Value → Shared → Prop) (s₁ : Shared)
    (n : Nat) (P : Nat → Value → Prop) (S : List (Addr × Obj) → Prop) (news : List (Addr × Obj)) : Prop :=
  ∃ Inv : Nat → List Value → List (Addr × Obj) → Prop, Inv 0 [] news ∧ (∀ i ys nw, Inv i ys nw → ys.length ≤ i) ∧
    (∀ i ys nw v I oI C oC D m₂ h tk (E' : Value → Shared → Prop), i < n → P i v → Inv i ys nw → NsObj oC m₂ → m₂ x = some v → Fr h₀ L h m → News h₀ L h ([(I, oI), (C, oC), (D, lst ys)] ++ nw) → (∀ q ∈ nw, ∀ o ∈ [(I, oI), (C, oC), (D, lst ys)], q.1 ≠ o.1) →
      ((@Ne Nat I C) ∧ (@Ne Nat I D) ∧ (@Ne Nat C D)) → S nw → IterObj oI →
      tests prog w A ifs (compEnvC scope cl C env) (fun ok s₃ => if ok = true then wpAny (model prog w) A (eval elt (compEnvC scope cl C env)) (fun y s₄ => TurnEnd h₀ L m s₁ [(I, oI), (C, oC), (D, lst ys)] S (fun nw' => Inv (i + 1) (ys ++ [y]) nw') s₄) E' s₃
        else TurnEnd h₀ L m s₁ [(I, oI), (C, oC), (D, lst ys)] S (fun nw' => Inv (i + 1) ys nw') s₃) E' { s₁ with heap := h, toks := tk }) ∧
    (∀ D ys nw h tk, Inv n ys nw → Fr h₀ L h m → News h₀ L h ((D, lst ys) :: nw) → (∀ q ∈ nw, @Ne Nat q.1 D) → Q (.ref D) { s₁ with heap := h, toks := tk })
theorem listCompX {elt iter : Expr} {x : PySem.Str} {px : Pos} {scope : Scope} {cl : List (PySem.Str × Addr)} {pos : Pos} {Q : Value → Shared → Prop}
    (_F : Fr h₀ L s.heap m) (hclos : closureFor scope env = pure cl) (hcf : ∀ n, cellsFrom n scope.names cl = (x, n) :: cl) (hpc : ∀ h, pushCells h scope.names = h.push { cls := .type "cell", data := .cell none }) (hkind : scope.kind = .function)
    (hnames : ∀ y ∈ scope.names, y.2 = .local → scope.names.lookup y.1 = some .local) (hx : scope.names.lookup x = some .cell)
    (h : wpAny (model prog w) A (eval iter env) (fun xv s₁ => SrcOk h₀ L m A (KX prog w A h₀ L m env elt x scope cl Q s₁) xv s₁) E s)
    (hs : ∀ x, foldedSetIterable iter env x = pure x := by intro _; rfl) :
    wpAny (model prog w) A (eval (.ListComp elt [⟨.Name x px, iter, [], 0⟩] scope pos) env) Q E s := by
  rw [eval_ListComp]
  refine wpAny_comprehension_free (use := none) rfl hs hclos hkind hnames (wpAny_mono h (fun xv s₁ h₁ => ?_) fun _ _ e => e)
  rcases h₁ with ⟨ax, its, news, rfl, hh, F, N, S, hsz, Inv, start, hlen, turn, fin⟩ | ⟨r, a, b, t, u, v, n, news, rfl, hh, F, N, hr, hsm, hn, hsz, Inv, start, hlen, turn, fin⟩
  · have hl := S.list F.keep N
    have hlt : ax < s₁.heap.objs.size := by obtain ⟨_, e, _⟩ := hl; exact Heap.lt_size e
    refine wpAny_pyIter_list hl ?_
    have up : ∀ b o, s₁.heap.get? b = some o → (s₁.heap.push { cls := .type "list_iterator", data := .fields #[.ref ax, .int 0 0] }).get? b = some o := fun b o e => Heap.get?_push_of_some _ e
    refine blockX (Walks.list hh s₁.heap.objs.size ax (Nat.ne_of_lt hlt) its) hsz (fun i h st => by obtain ⟨o, e, _⟩ := st.1; exact ⟨o, e⟩) list_st hcf hpc hkind hx ⟨⟨_, Heap.get?_push_size _ rfl, rfl, rfl⟩, hl.push _⟩ (fun b hb => ?_)
      (F.keeps up) (N.grown up) (Nat.ne_of_lt F.ns.lt) (next_is_new F) (fun p hp => Nat.ne_of_lt (Heap.lt_size (N p hp).1)) S start (fun i ys nw v oI C oC oX D h tk E' hi hP hI hd hF hN ho hlt hS => turn i ys nw v _ oI C oC oX D h tk E' hi hP hI hd hF hN ho hlt hS) ?_ hlen
    · show b < (s₁.heap.push _).objs.size
      rw [Heap.size_push]
      rcases List.mem_cons.mp hb with rfl | hb
      · exact Nat.lt_succ_self _
      · rw [List.mem_singleton.mp hb]; exact Nat.lt_succ_of_lt hlt
    · intro D C h tk m' ys nw F' N' o1 hn hC₀ hD₀ hCL hDL hCD offC fi
      refine ⟨m', hn, fun h'' hs'' => fin D ys nw h'' tk fi (F'.change hs'' hCL hC₀) (fun p hp => ?_) o1⟩
      refine ⟨hs''.extBut _ _ ?_ (N' p hp).1, (N' p hp).2⟩
      rcases List.mem_cons.mp hp with rfl | hp
      · exact Ne.symm hCD
      · exact offC p hp
  · refine wpAny_pyIter_range hr hsm ?_
    refine blockX (range_walks hh a n) hsz (fun i h st => ⟨_, st⟩) range_st hcf hpc hkind hx (by show IsRangeIter _ _ _ _ _; rw [hn]; simpa using Heap.get?_push_size _ rfl) (fun b hb => ?_)
      (F.keeps fun _ _ e => Heap.get?_push_of_some _ e) (N.grown fun _ _ e => Heap.get?_push_of_some _ e) (Nat.ne_of_lt F.ns.lt) (next_is_new F) (fun p hp => Nat.ne_of_lt (Heap.lt_size (N p hp).1)) trivial start (fun i ys nw v oI C oC oX D h tk E' hi hP hI hd hF hN ho hlt hS => turn i ys nw v _ oI C oC oX D h tk E' hi hP hI hd hF hN ho hlt hS) ?_ hlen
    · rw [List.mem_singleton.mp hb]
      show s₁.heap.objs.size < (s₁.heap.push _).objs.size
      rw [Heap.size_push]; exact Nat.lt_succ_self _
    · intro D C h tk m' ys nw F' N' o1 hn hC₀ hD₀ hCL hDL hCD offC fi
      refine ⟨m', hn, fun h'' hs'' => fin D ys nw h'' tk fi (F'.change hs'' hCL hC₀) (fun p hp => ?_) o1⟩
      refine ⟨hs''.extBut _ _ ?_ (N' p hp).1, (N' p hp).2⟩
      rcases List.mem_cons.mp hp with rfl | hp
      · exact Ne.symm hCD
      · exact offC p hp
theorem listCompV {elt iter : Expr} {ifs : List Expr} {x : PySem.Str} {px : Pos} {scope : Scope} {cl : List (PySem.Str × Addr)} {pos : Pos} {Q : Value → Shared → Prop}
    (_F : Fr h₀ L s.heap m) (hclos : closureFor scope env = pure cl) (hcell : ∀ y ∈ scope.names, y.2 ≠ .cell) (hkind : scope.kind = .function)
    (hnames : ∀ y ∈ scope.names, y.2 = .local → scope.names.lookup y.1 = some .local) (hx : scope.names.lookup x = some .local)
    (h : wpAny (model prog w) A (eval iter env) (fun xv s₁ => SrcOk h₀ L m A (KV prog w A h₀ L m env elt ifs x scope cl Q s₁) xv s₁) E s)
    (hs : ∀ x, foldedSetIterable iter env x = pure x := by intro _; rfl) :
    wpAny (model prog w) A (eval (.ListComp elt [⟨.Name x px, iter, ifs, 0⟩] scope pos) env) Q E s := by
  rw [eval_ListComp]
  refine wpAny_comprehension_free (use := none) rfl hs hclos hkind hnames (wpAny_mono h (fun xv s₁ h₁ => ?_) fun _ _ e => e)
  rcases h₁ with ⟨ax, its, news, rfl, hh, F, N, S, hsz, Inv, start, hlen, turn, fin⟩ | ⟨r, a, b, t, u, v, n, news, rfl, hh, F, N, hr, hsm, hn, hsz, Inv, start, hlen, turn, fin⟩
  · have hl := S.list F.keep N
    have hlt : ax < s₁.heap.objs.size := by obtain ⟨_, e, _⟩ := hl; exact Heap.lt_size e
    refine wpAny_pyIter_list hl ?_
    have up : ∀ b o, s₁.heap.get? b = some o → (s₁.heap.push { cls := .type "list_iterator", data := .fields #[.ref ax, .int 0 0] }).get? b = some o := fun b o e => Heap.get?_push_of_some _ e
    refine blockV (Walks.list hh s₁.heap.objs.size ax (Nat.ne_of_lt hlt) its) hsz (fun i h st => by obtain ⟨o, e, _, hd⟩ := st.1; exact ⟨o, e, fun vs hv => by rw [hd] at hv; cases hv; exact ⟨_, _, rfl⟩⟩) list_st hcell hkind hx ⟨⟨_, Heap.get?_push_size _ rfl, rfl, rfl⟩, hl.push _⟩ (fun b hb => ?_)
      (F.keeps up) (N.grown up) (Nat.ne_of_lt F.ns.lt) (next_is_new F) (fun p hp => Nat.ne_of_lt (Heap.lt_size (N p hp).1)) S start (fun i ys nw v oI C oC D m₂ h tk E' hi hP hI hd hm hF hN ho hlt hS hIt => turn i ys nw v _ oI C oC D m₂ h tk E' hi hP hI hd hm hF hN ho hlt hS hIt) ?_ hlen
    · show b < (s₁.heap.push _).objs.size
      rw [Heap.size_push]
      rcases List.mem_cons.mp hb with rfl | hb
      · exact Nat.lt_succ_self _
      · rw [List.mem_singleton.mp hb]; exact Nat.lt_succ_of_lt hlt
    · intro D C h tk m' ys nw F' N' o1 hn hC₀ hD₀ hCL hDL hCD offC fi
      refine ⟨m', hn, fun h'' hs'' => fin D ys nw h'' tk fi (F'.change hs'' hCL hC₀) (fun p hp => ?_) o1⟩
      refine ⟨hs''.extBut _ _ ?_ (N' p hp).1, (N' p hp).2⟩
      rcases List.mem_cons.mp hp with rfl | hp
      · exact Ne.symm hCD
      · exact offC p hp
  · refine wpAny_pyIter_range hr hsm ?_
    refine blockV (range_walks hh a n) hsz (fun i h st => ⟨_, st, fun vs hv => by cases hv; exact ⟨_, _, rfl⟩⟩) range_st hcell hkind hx (by show IsRangeIter _ _ _ _ _; rw [hn]; simpa using Heap.get?_push_size _ rfl) (fun b hb => ?_)
      (F.keeps fun _ _ e => Heap.get?_push_of_some _ e) (N.grown fun _ _ e => Heap.get?_push_of_some _ e) (Nat.ne_of_lt F.ns.lt) (next_is_new F) (fun p hp => Nat.ne_of_lt (Heap.lt_size (N p hp).1)) trivial start (fun i ys nw v oI C oC D m₂ h tk E' hi hP hI hd hm hF hN ho hlt hS hIt => turn i ys nw v _ oI C oC D m₂ h tk E' hi hP hI hd hm hF hN ho hlt hS hIt) ?_ hlen
    · rw [List.mem_singleton.mp hb]
      show s₁.heap.objs.size < (s₁.heap.push _).objs.size
      rw [Heap.size_push]; exact Nat.lt_succ_self _
    · intro D C h tk m' ys nw F' N' o1 hn hC₀ hD₀ hCL hDL hCD offC fi
      refine ⟨m', hn, fun h'' hs'' => fin D ys nw h'' tk fi (F'.change hs'' hCL hC₀) (fun p hp => ?_) o1⟩
      refine ⟨hs''.extBut _ _ ?_ (N' p hp).1, (N' p hp).2⟩
      rcases List.mem_cons.mp hp with rfl | hp
      · exact Ne.symm hCD
      · exact offC p hp
end
/-- a list of lists of ints, in the ledger -/
inductive RowsAre (nw : List (Addr × Obj)) : List Value → List (List Int) → Prop
  | nil : RowsAre nw [] []
  | cons {a : Addr} {vs : List Value} {e : Nat} {r : List Int} {ys : List Value} {M : List (List Int)} : (a, W.listOf vs.toArray e) ∈ nw → IntsAre vs r → RowsAre nw ys M → RowsAre nw (.ref a :: ys) (r :: M)
theorem RowsAre.mono {nw nw' : List (Addr × Obj)} {ys : List Value} {M : List (List Int)} (x : RowsAre nw ys M) (h : ∀ p ∈ nw, p ∈ nw') : RowsAre nw' ys M := by
  induction x with
  | nil => exact .nil
  | cons hm hi _ ih => exact .cons (h _ hm) hi ih
theorem RowsAre.snoc {nw : List (Addr × Obj)} {a : Addr} {vs : List Value} {e : Nat} {r : List Int} {ys : List Value} {M : List (List Int)} (x : RowsAre nw ys M) (hm : (a, W.listOf vs.toArray e) ∈ nw) (hi : IntsAre vs r) : RowsAre nw (ys ++ [.ref a]) (M ++ [r]) := by
  induction x with
  | nil => exact .cons hm hi .nil
  | cons h1 h2 _ ih => exact .cons h1 h2 ih
theorem RowsAre.length {nw : List (Addr × Obj)} {ys : List Value} {M : List (List Int)} (x : RowsAre nw ys M) : ys.length = M.length := by
  induction x with
  | nil => rfl
  | cons _ _ _ ih => simp [ih]
theorem RowsAre.get {nw : List (Addr × Obj)} {ys : List Value} {M : List (List Int)} (x : RowsAre nw ys M) : ∀ (i : Nat) (v : Value), ys[i]? = some v → ∃ a vs e r, v = .ref a ∧ (a, W.listOf vs.toArray e) ∈ nw ∧ IntsAre vs r ∧ M[i]? = some r := by
  induction x with
  | nil => intro i v h; simp at h
  | @cons a vs e r ys M hm hi _ ih =>
    intro i v h
    cases i with
    | zero => simp at h; exact ⟨a, vs, e, r, h.symm, hm, hi, rfl⟩
    | succ i => simpa using ih i v (by simpa using h)
def table_val (r0 r1 r2 r3 : Int) : List (List Int) := [[r0, r1, r2, r3], [r3, r0, r1, r2], [r2, r3, r0, r1], [r1, r2, r3, r0]]
def TInv (T : List (List Int)) (news : List (Addr × Obj)) (i : Nat) (ys : List Value) (nw : List (Addr × Obj)) : Prop := i ≤ T.length ∧ (∀ p ∈ news, p ∈ nw) ∧ RowsAre nw ys (T.take i)
theorem TInv.start {T : List (List Int)} {news : List (Addr × Obj)} : TInv T news 0 [] news := ⟨Nat.zero_le _, fun _ h => h, .nil⟩
theorem TInv.len {T : List (List Int)} {news : List (Addr × Obj)} : ∀ i ys nw, TInv T news i ys nw → ys.length ≤ i := fun i ys nw h => by
  rw [h.2.2.length, List.length_take]; exact Nat.min_le_left _ _
theorem TInv.step {T : List (List Int)} {news nw nw' : List (Addr × Obj)} {i : Nat} {ys : List Value} {a : Addr} {vs : List Value} {e : Nat} {r : List Int} (x : TInv T news i ys nw) (hs : ∀ p ∈ nw, p ∈ nw') (hm : (a, W.listOf vs.toArray e) ∈ nw') (hi : IntsAre vs r) (hr : T[i]? = some r) :
    TInv T news (i + 1) (ys ++ [.ref a]) nw' := by
  obtain ⟨h1, h2, h3⟩ := x
  have hlt : i < T.length := by
    rcases Nat.lt_or_ge i T.length with h | h
    · exact h
    · rw [List.getElem?_eq_none h] at hr; cases hr
  refine ⟨hlt, fun p hp => hs p (h2 p hp), ?_⟩
  rw [List.take_add_one, hr]
  exact (h3.mono hs).snoc hm hi
theorem table_row {r0 r1 r2 r3 : Int} {i : Nat} (hi : i < 4) :
    (table_val r0 r1 r2 r3)[i]? = some ((List.map (fun a : Int => [r0, r1, r2, r3].getD ((a - (0 + (i : Int))).fmod 4).toNat 0) (List.filter (fun _ => true) (rangeInts 0 1 (4 - 0 : Int).toNat)))) := by
  match i, hi with
  | 0, _ => rfl
  | 1, _ => rfl
  | 2, _ => rfl
  | 3, _ => rfl
theorem news_add {h₀ h : Heap} {L D : Addr} {m : PySem.Str → Option Value} {o : Obj} {nw : List (Addr × Obj)} (F : Fr h₀ L h m) (N : News h₀ L h nw) (he : h.get? D = some o) (hd : o.cls = .type "list") (hl : ∃ its n, o.data = .seq its n) (hg : h₀.get? D = none) : News h₀ L h ((D, o) :: nw) := fun q hq => by
  rcases List.mem_cons.mp hq with rfl | hq
  · refine ⟨he, fun e => ?_, hg⟩
    obtain ⟨oL, es, ep, e1, e2, _⟩ := F.ns
    obtain ⟨its, n, e3⟩ := hl
    have e' : D = L := e
    rw [e', e1] at he
    cases he
    rw [e2] at e3; cases e3
  · exact N q hq
theorem TurnEnd.plain {h₀ h' : Heap} {L D : Addr} {m : PySem.Str → Option Value} {s₁ : Shared} {own nw : List (Addr × Obj)} {S : List (Addr × Obj) → Prop} {rest : List (Addr × Obj) → Prop} {its : Array Value} {tk : Nat} (F : Fr h₀ L h' m) (N : News h₀ L h' (own ++ nw)) (hp : NewPlain h' (own ++ nw) D its) (hD : h₀.get? D = none)
    (off : ∀ q ∈ nw, ∀ o ∈ own, q.1 ≠ o.1) (hS : ∀ e, S ((D, W.listOf its e) :: nw)) (r : ∀ e, rest ((D, W.listOf its e) :: nw)) : TurnEnd h₀ L m s₁ own S rest { s₁ with heap := h', toks := tk } := by
  obtain ⟨⟨e, he⟩, hne⟩ := hp
  have N' := news_add F N he rfl ⟨_, _, rfl⟩ hD
  refine TurnEnd.intro F N' ((D, W.listOf its e) :: nw) (fun p hp => ?_) (fun q hq o ho => ?_) (hS e) (r e)
  · rcases List.mem_append.mp hp with h | h
    · exact .tail _ (List.mem_append_left _ h)
    · rcases List.mem_cons.mp h with rfl | h
      · exact .head _
      · exact .tail _ (List.mem_append_right _ h)
  · rcases List.mem_cons.mp hq with rfl | hq
    · exact Ne.symm (hne o (List.mem_append_left _ ho))
    · exact off q hq o ho
/-- so far the list holds f 0 .. f (i - 1) -/
def IInv (f : Nat → Int) (news : List (Addr × Obj)) (i : Nat) (ys : List Value) (nw : List (Addr × Obj)) : Prop := (∀ p ∈ news, p ∈ nw) ∧ IntsAre ys ((List.range i).map f)
theorem IInv.start {f : Nat → Int} {news : List (Addr × Obj)} : IInv f news 0 [] news := ⟨fun _ h => h, .nil⟩
theorem IInv.len {f : Nat → Int} {news : List (Addr × Obj)} : ∀ i ys nw, IInv f news i ys nw → ys.length ≤ i := fun i ys nw h => by
  rw [h.2.length, List.length_map, List.length_range]; exact Nat.le_refl _
theorem IInv.step {f : Nat → Int} {news nw nw' : List (Addr × Obj)} {i : Nat} {ys : List Value} {t : Tok} {v : Int} (x : IInv f news i ys nw) (hs : ∀ p ∈ nw, p ∈ nw') (hv : v = f i) : IInv f news (i + 1) (ys ++ [.int v t]) nw' := by
  refine ⟨fun p hp => hs p (x.1 p hp), ?_⟩
  rw [List.range_succ, List.map_append]
  subst hv
  exact IntsAre.append x.2 (.cons _ t .nil)
/-- a turn that makes nothing that stays -/
theorem TurnEnd.same {h₀ h' : Heap} {L : Addr} {m : PySem.Str → Option Value} {s₁ : Shared} {own nw all : List (Addr × Obj)} {S : List (Addr × Obj) → Prop} {rest : List (Addr × Obj) → Prop} {tk : Nat} (F : Fr h₀ L h' m) (N : News h₀ L h' all) (hsub : ∀ p ∈ own ++ nw, p ∈ all)
    (off : ∀ q ∈ nw, ∀ o ∈ own, q.1 ≠ o.1) (hS : S nw) (r : rest nw) : TurnEnd h₀ L m s₁ own S rest { s₁ with heap := h', toks := tk } := TurnEnd.intro F N nw hsub off hS r
def Stop (P : Prop) : Prop := P
theorem Stop.mk {P : Prop} (h : P) : Stop P := h
theorem Stop.go {P : Prop} (h : Stop P) : P := h
theorem RowsAre.at {nw : List (Addr × Obj)} {ys : List Value} {M : List (List Int)} (x : RowsAre nw ys M) {k : Int} (h0 : 0 ≤ k) (h1 : k < (M.length : Int)) : ∃ a vs e, ys[k.toNat]? = some (.ref a) ∧ (a, W.listOf vs.toArray e) ∈ nw ∧ IntsAre vs (M.getD k.toNat []) := by
  have hlt : k.toNat < ys.length := by rw [x.length]; omega
  obtain ⟨a, vs, e, r, h2, h3, h4, h5⟩ := x.get k.toNat _ (List.getElem?_eq_getElem hlt)
  refine ⟨a, vs, e, by rw [List.getElem?_eq_getElem hlt, h2], h3, ?_⟩
  rw [List.getD_eq_getElem?_getD, h5]
  exact h4
section
variable {prog : Program} {w : World} {A : Around} {E : Value → Shared → Prop} {s : Shared} {h₀ : Heap} {L : Addr} {m : PySem.Str → Option Value}
/-- one row out of a list of rows -/
theorem rowItem {news all : List (Addr × Obj)} {value slice : PySem.Expr} {q : Addr} {ys : List Value} {e : Nat} {M : List (List Int)} {k : Int} {u : Tok} {Q : Value → Shared → Prop} (hm : (q, W.listOf ys.toArray e) ∈ news) (hR : RowsAre news ys M) (N : News h₀ L s.heap all) (hsub : ∀ p ∈ news, p ∈ all)
    (h0 : 0 ≤ k) (h1 : k < (M.length : Int)) (hfit : k < 2 ^ 63) (h : ∀ a vs e', (a, W.listOf vs.toArray e') ∈ news → IntsAre vs (M.getD k.toNat []) → Q (.ref a) s)
    (hs : subscripted slice false (.ref q) (.int k u) = operate [.ref q, .int k u] (getItem (.ref q) (.int k u)) := by with_unfolding_all rfl) :
    wpAny (model prog w) A (subscriptTail value slice (.ref q) (.int k u)) Q E s := by
  have hl : s.heap.IsList q ys.toArray := N.isList (hsub _ hm)
  obtain ⟨a, vs, e', hy, hma, hia⟩ := hR.at h0 h1
  exact tail_any hl.typeIs slot_list_getitem.lookup (wpAny_getItem_list hl h0 hfit (by simpa using hy) (h a vs e' hma hia)) hs
/-- one number out of a row -/
theorem intItem {news all : List (Addr × Obj)} {value slice : PySem.Expr} {q : Addr} {vs : List Value} {e : Nat} {ns : List Int} {k : Int} {u : Tok} {Q : Value → Shared → Prop} (hm : (q, W.listOf vs.toArray e) ∈ news) (hi : IntsAre vs ns) (N : News h₀ L s.heap all) (hsub : ∀ p ∈ news, p ∈ all)
    (h0 : 0 ≤ k) (h1 : k < (ns.length : Int)) (hfit : k < 2 ^ 63) (h : ∀ t, Q (.int (ns.getD k.toNat 0) t) s)
    (hs : subscripted slice false (.ref q) (.int k u) = operate [.ref q, .int k u] (getItem (.ref q) (.int k u)) := by with_unfolding_all rfl) :
    wpAny (model prog w) A (subscriptTail value slice (.ref q) (.int k u)) Q E s := item_anyK (N.isList (hsub _ hm)) hi h0 h1 hfit h hs
end
theorem getD_bound {l : List Int} (h : ∀ x ∈ l, 0 ≤ x ∧ x < 17) (i : Nat) : 0 ≤ l.getD i 0 ∧ l.getD i 0 < 17 := by
  rw [List.getD_eq_getElem?_getD]
  cases e : l[i]? with
  | none => exact ⟨by decide, by decide⟩
  | some x => exact h x (List.mem_of_getElem? e)
theorem getD2_bound {M : List (List Int)} (h : ∀ r ∈ M, ∀ x ∈ r, 0 ≤ x ∧ x < 17) (j i : Nat) : 0 ≤ (M.getD j []).getD i 0 ∧ (M.getD j []).getD i 0 < 17 := by
  refine getD_bound ?_ i
  rw [List.getD_eq_getElem?_getD]
  cases e : M[j]? with
  | none => intro x hx; simp at hx
  | some r => exact h r (List.mem_of_getElem? e)
theorem table_in {r0 r1 r2 r3 : Int} (g0 : 0 ≤ r0 ∧ r0 < 17) (g1 : 0 ≤ r1 ∧ r1 < 17) (g2 : 0 ≤ r2 ∧ r2 < 17) (g3 : 0 ≤ r3 ∧ r3 < 17) : ∀ r ∈ table_val r0 r1 r2 r3, ∀ x ∈ r, 0 ≤ x ∧ x < 17 := by
  intro r hr x hx
  simp only [table_val, List.mem_cons, List.not_mem_nil, or_false] at hr
  rcases hr with rfl | rfl | rfl | rfl <;> simp only [List.mem_cons, List.not_mem_nil, or_false] at hx <;> rcases hx with rfl | rfl | rfl | rfl <;> assumption
theorem table_getD {r0 r1 r2 r3 : Int} (g0 : 0 ≤ r0 ∧ r0 < 17) (g1 : 0 ≤ r1 ∧ r1 < 17) (g2 : 0 ≤ r2 ∧ r2 < 17) (g3 : 0 ≤ r3 ∧ r3 < 17) (j i : Nat) : 0 ≤ ((table_val r0 r1 r2 r3).getD j []).getD i 0 ∧ ((table_val r0 r1 r2 r3).getD j []).getD i 0 < 17 := getD2_bound (table_in g0 g1 g2 g3) j i
theorem mulFit {a b : Int} (h : 0 ≤ a ∧ a < 17) : IntMulOk a b := IntMulOk.of_left (intBits_le_64 (by omega) (by omega))
end Mine
end
section
open PySem PySem.W PySem.Spec PySem.Calls PyProof.Rows
set_option Elab.async false
namespace Mine
/-- a list of lists of ints as data -/
def rowsD (M : List (List Int)) : PyData := .list (M.map fun r => .list (r.map PyData.int))
theorem RowsAre.readsAll {h₀ h : Heap} {L : Addr} {nw all : List (Addr × Obj)} {ys : List Value} {M : List (List Int)} (x : RowsAre nw ys M) (N : News h₀ L h all) (hs : ∀ p ∈ nw, p ∈ all) :
    ∃ as, ReadsAll h ys (M.map fun r => PyData.list (r.map PyData.int)) as := by
  induction x with
  | nil => exact ⟨[], .nil⟩
  | @cons a vs e r ys M hm hi _ ih =>
    obtain ⟨as, ih⟩ := ih
    exact ⟨_, .cons (reads_of_ints (N.isList (hs _ hm)) hi) ih⟩
theorem rows_reads {h₀ h : Heap} {L q : Addr} {nw all : List (Addr × Obj)} {ys : List Value} {e : Nat} {M : List (List Int)} (hq : (q, W.listOf ys.toArray e) ∈ nw) (x : RowsAre nw ys M) (N : News h₀ L h all) (hs : ∀ p ∈ nw, p ∈ all) :
    ∃ as, Reads h (.ref q) (rowsD M) as := by
  obtain ⟨as, ra⟩ := x.readsAll N hs
  exact ⟨_, .list (N _ (hs _ hq)).1 rfl rfl (by simpa using ra)⟩
theorem rows_canLay : ∀ M : List (List Int), PyData.canLayAll0 (M.map fun r => PyData.list (r.map PyData.int)) = true
  | [] => by simp [PyData.canLayAll0]
  | r :: M => by simp [PyData.canLayAll0, PyData.canLay0, canLayAll0_ints r, rows_canLay M]
theorem rows_depth : ∀ M : List (List Int), PyData.depthAll (M.map fun r => PyData.list (r.map PyData.int)) ≤ 3
  | [] => by simp [PyData.depthAll]
  | r :: M => by
    have h1 := rows_depth M
    have h2 := W.depthAll_ints r
    simp only [List.map_cons, PyData.depthAll, PyData.depth]
    omega
theorem rows_shaped (M : List (List Int)) : SeqAt.shaped (rowsD M) = true := by
  have h1 := rows_depth M
  have h2 : PyData.depth (rowsD M) ≤ 64 := by simp only [rowsD, PyData.depth]; omega
  show (PyData.canLay0 (rowsD M) && decide (PyData.depth (rowsD M) ≤ 64)) = true
  rw [Bool.and_eq_true]
  exact ⟨by simp only [rowsD, PyData.canLay0]; exact rows_canLay M, decide_eq_true h2⟩
theorem ints_eqvAll : ∀ ns ms : List Int, PyData.eqvAll (ns.map PyData.int) (ms.map PyData.int) = decide (ns = ms) := ked_eqvAll
theorem rows_eqvAll : ∀ M M' : List (List Int), PyData.eqvAll (M.map fun r => PyData.list (r.map PyData.int)) (M'.map fun r => PyData.list (r.map PyData.int)) = decide (M = M')
  | [], [] => by simp [PyData.eqvAll]
  | [], _ :: _ => by simp [PyData.eqvAll]
  | _ :: _, [] => by simp [PyData.eqvAll]
  | a :: r, b :: t => by
    simp only [List.map_cons, PyData.eqvAll, PyData.eqv, rows_eqvAll r t, ints_eqvAll]
    by_cases h : a = b <;> by_cases h' : r = t <;> simp [h, h']
theorem rows_eqv (M M' : List (List Int)) : PyData.eqv (rowsD M) (rowsD M') = decide (M = M') := by
  simp only [rowsD, PyData.eqv]
  exact rows_eqvAll M M'
section
variable {prog : Program} {w : World} {A : Around} {E : Value → Shared → Prop} {s : Shared} {h₀ : Heap} {L q q' : Addr} {nw nw' all : List (Addr × Obj)} {ys zs : List Value} {e e' : Nat} {M M' : List (List Int)} {Q : Value → Shared → Prop}
theorem rowsEq (N : News h₀ L s.heap all) (hq : (q, W.listOf ys.toArray e) ∈ nw) (x : RowsAre nw ys M) (hs : ∀ p ∈ nw, p ∈ all) (hq' : (q', W.listOf zs.toArray e') ∈ nw') (x' : RowsAre nw' zs M') (hs' : ∀ p ∈ nw', p ∈ all) (hu : A.units + 64 < cLine)
    (h : Q (.bool (decide (M = M'))) s) : wpAny (model prog w) A (compareOp .Eq (.ref q) (.ref q')) Q E s := by
  obtain ⟨as, ra⟩ := rows_reads hq x N hs
  obtain ⟨bs, rb⟩ := rows_reads hq' x' N hs'
  exact eq_dataH ra rb (rows_shaped M) (rows_shaped M') hu (by rw [rows_eqv]; exact h)
theorem rowsNe (N : News h₀ L s.heap all) (hq : (q, W.listOf ys.toArray e) ∈ nw) (x : RowsAre nw ys M) (hs : ∀ p ∈ nw, p ∈ all) (hq' : (q', W.listOf zs.toArray e') ∈ nw') (x' : RowsAre nw' zs M') (hs' : ∀ p ∈ nw', p ∈ all) (hu : A.units + 64 < cLine)
    (h : Q (.bool (!decide (M = M'))) s) : wpAny (model prog w) A (compareOp .NotEq (.ref q) (.ref q')) Q E s := by
  obtain ⟨as, ra⟩ := rows_reads hq x N hs
  obtain ⟨bs, rb⟩ := rows_reads hq' x' N hs'
  exact ne_dataH ra rb (rows_shaped M) (rows_shaped M') hu (by rw [rows_eqv]; exact h)
theorem lenRows {k : Nat} (N : News h₀ L s.heap all) (hq : (q, W.listOf ys.toArray e) ∈ nw) (x : RowsAre nw ys M) (hs : ∀ p ∈ nw, p ∈ all) (hM : M.length = k) (hk : k ≤ 1000)
    (h : Q (.int (k : Int) (s.toks + 1)) { s with toks := s.toks + 1 + 1 }) : wpAny (model prog w) A (call (.builtin "len") [.ref q]) Q E s := by
  have hl := x.length
  refine Calls.call_len_list (News.isList N (hs _ hq)) (by rw [List.size_toArray]; omega) ?_
  rw [List.size_toArray, hl, hM]; exact h
end
theorem getD_mem {α : Type} {l : List α} {d : α} {i : Nat} (h : i < l.length) : l.getD i d ∈ l := by
  rw [List.getD_eq_getElem?_getD, List.getElem?_eq_getElem h]
  exact List.getElem_mem h
theorem rows_drop {ys : List Value} (h : 1 ≤ ys.length) : (slicePick ys.toArray (some 1) none none).toList = ys.drop 1 := by
  have e := slicePick_from ys.toArray 1 (by simpa using h)
  rw [show ((1 : Nat) : Int) = 1 from rfl] at e
  rw [e]
theorem RowsAre.getK {nw : List (Addr × Obj)} {ys : List Value} {M : List (List Int)} {i : Nat} {v : Value} {P : Prop} (x : RowsAre nw ys M) (h : ys[i]? = some v)
    (k : ∀ a vs e r, v = .ref a → (a, W.listOf vs.toArray e) ∈ nw → IntsAre vs r → M[i]? = some r → r ∈ M → P) : P := by
  obtain ⟨a, vs, e, r, h1, h2, h3, h4⟩ := x.get i v h
  exact k a vs e r h1 h2 h3 h4 (List.mem_of_getElem? h4)
theorem RowsAre.drop {nw : List (Addr × Obj)} {ys : List Value} {M : List (List Int)} (x : RowsAre nw ys M) : RowsAre nw (ys.drop 1) (M.drop 1) := by
  cases x with
  | nil => exact .nil
  | cons _ _ r => exact r
/-- a turn that makes one thing that stays -/
theorem TurnEnd.add {h₀ h' : Heap} {L : Addr} {m : PySem.Str → Option Value} {s₁ : Shared} {own nw mid : List (Addr × Obj)} {S : List (Addr × Obj) → Prop} {rest : List (Addr × Obj) → Prop} {tk : Nat} {x : Addr × Obj} (F : Fr h₀ L h' m) (N : News h₀ L h' (x :: mid)) (hs : ∀ p ∈ own ++ nw, p ∈ mid)
    (hx : ∀ o ∈ own, o.1 ≠ x.1) (off : ∀ q ∈ nw, ∀ o ∈ own, q.1 ≠ o.1) (hS : S (x :: nw)) (r : rest (x :: nw)) : TurnEnd h₀ L m s₁ own S rest { s₁ with heap := h', toks := tk } := by
  refine TurnEnd.intro F N (x :: nw) (fun p hp => ?_) (fun q hq o ho => ?_) hS r
  · rcases List.mem_append.mp hp with h | h
    · exact .tail _ (hs _ (List.mem_append_left _ h))
    · rcases List.mem_cons.mp h with rfl | h
      · exact .head _
      · exact .tail _ (hs _ (List.mem_append_right _ h))
  · rcases List.mem_cons.mp hq with rfl | hq
    · exact Ne.symm (hx o ho)
    · exact off q hq o ho
theorem minor_ints {ws : List Value} {r : List Int} {k : Nat} (h : IntsAre ws (r.take (0 + (k : Int)).toNat ++ r.drop (0 + (k : Int) + 1).toNat)) : IntsAre ws (r.take k ++ r.drop (k + 1)) := by
  rw [show (0 + (k : Int)).toNat = k by omega, show (0 + (k : Int) + 1).toNat = k + 1 by omega] at h
  exact h
theorem minor_len {M : List (List Int)} {n k : Nat} (hk : k < n + 1) (hr : ∀ r ∈ M, r.length = n + 1) : ∀ r ∈ (M.drop 1).map fun r => r.take k ++ r.drop (k + 1), r.length = n := fun r hr' => by
  obtain ⟨r', hm, rfl⟩ := List.mem_map.mp hr'
  have := hr r' (List.mem_of_mem_drop hm)
  simp only [List.length_append, List.length_take, List.length_drop]
  omega
theorem minor_in {M : List (List Int)} {k : Nat} (hi : ∀ r ∈ M, ∀ x ∈ r, 0 ≤ x ∧ x < 17) : ∀ r ∈ (M.drop 1).map fun r => r.take k ++ r.drop (k + 1), ∀ x ∈ r, 0 ≤ x ∧ x < 17 := fun r hr' x hx => by
  obtain ⟨r', hm, rfl⟩ := List.mem_map.mp hr'
  have hmr := List.mem_of_mem_drop hm
  rcases List.mem_append.mp hx with h | h
  · exact hi r' hmr x (List.mem_of_mem_take h)
  · exact hi r' hmr x (List.mem_of_mem_drop h)
/-- what the table tells by signs, n rows -/
def detv : Nat → List (List Int) → Int
  | 0, _ => 1
  | n + 1, M => ((List.range (n + 1)).map fun k : Nat => (1 - 2 * ((k : Int) % 2)) * (M.getD 0 []).getD k 0 * detv n ((M.drop 1).map fun r => r.take k ++ r.drop (k + 1))).sum
def detB : Nat → Int
  | 0 => 1
  | n + 1 => (n + 1) * 16 * detB n
theorem sum_abs {B : Int} (hB : 0 ≤ B) : ∀ (l : List Int), (∀ x ∈ l, -B ≤ x ∧ x ≤ B) → -(l.length * B) ≤ l.sum ∧ l.sum ≤ l.length * B
  | [], _ => by simp
  | a :: l, h => by
    have h1 := h a (.head _)
    have h2 := sum_abs hB l fun x hx => h x (.tail _ hx)
    have e : ((a :: l).length : Int) * B = l.length * B + B := by rw [List.length_cons]; push_cast; rw [Int.add_mul, Int.one_mul]
    rw [List.sum_cons, e]
    omega
theorem mul_abs {s a d B : Int} (hs : s = 1 ∨ s = -1) (ha : 0 ≤ a ∧ a ≤ 16) (hB : 0 ≤ B) (hd : -B ≤ d ∧ d ≤ B) : -(16 * B) ≤ s * a * d ∧ s * a * d ≤ 16 * B := by
  have h1 : a * d ≤ 16 * B := Int.le_trans (Int.mul_le_mul_of_nonneg_left hd.2 ha.1) (Int.mul_le_mul_of_nonneg_right ha.2 hB)
  have h2 : -(16 * B) ≤ a * d := by
    have q1 := Int.mul_le_mul_of_nonneg_left hd.1 ha.1
    have q2 := Int.mul_le_mul_of_nonneg_right ha.2 hB
    rw [Int.mul_neg] at q1
    omega
  rcases hs with rfl | rfl
  · rw [Int.one_mul]; exact ⟨h2, h1⟩
  · rw [show (-1 : Int) * a * d = -(a * d) by rw [Int.neg_mul, Int.one_mul, Int.neg_mul]]; omega
theorem detB_nonneg : ∀ n, 0 ≤ detB n
  | 0 => by decide
  | n + 1 => by
    have := detB_nonneg n
    unfold detB
    exact Int.mul_nonneg (by omega) this
theorem detv_bound : ∀ (n : Nat) (M : List (List Int)), (∀ r ∈ M, ∀ x ∈ r, 0 ≤ x ∧ x < 17) → -detB n ≤ detv n M ∧ detv n M ≤ detB n
  | 0, _, _ => by simp [detv, detB]
  | n + 1, M, hi => by
    have hb := detB_nonneg n
    have h := sum_abs (B := 16 * detB n) (by omega) ((List.range (n + 1)).map fun k : Nat => (1 - 2 * ((k : Int) % 2)) * (M.getD 0 []).getD k 0 * detv n ((M.drop 1).map fun r => r.take k ++ r.drop (k + 1))) (fun x hx => by
      obtain ⟨k, _, rfl⟩ := List.mem_map.mp hx
      have g := getD2_bound hi 0 k
      exact mul_abs (by omega) ⟨g.1, by omega⟩ hb (detv_bound n _ (minor_in hi)))
    rw [List.length_map, List.length_range] at h
    have e : ((n + 1 : Nat) : Int) * (16 * detB n) = detB (n + 1) := by
      show ((n + 1 : Nat) : Int) * (16 * detB n) = ((n : Int) + 1) * 16 * detB n
      rw [Int.mul_assoc]; rfl
    rw [e] at h
    unfold detv
    exact h
theorem sgn_fit {k : Nat} {M : List (List Int)} {b : Int} (hi : ∀ r ∈ M, ∀ x ∈ r, 0 ≤ x ∧ x < 17) : IntMulOk ((1 - 2 * (0 + (k : Int)).fmod 2) * (M.getD (Int.toNat 0) []).getD (0 + (k : Int)).toNat 0) b := by
  have g := getD2_bound hi (Int.toNat 0) (0 + (k : Int)).toNat
  have h := mul_abs (s := 1 - 2 * (0 + (k : Int)).fmod 2) (d := 1) (B := 1) (by rw [Int.fmod_eq_emod_of_nonneg _ (by decide)]; omega) ⟨g.1, by omega⟩ (by decide) (by decide)
  rw [Int.mul_one] at h
  exact IntMulOk.of_left (intBits_le_64 (by omega) (by omega))
theorem sgn_eq {k : Nat} {M : List (List Int)} {d : Int} : (1 - 2 * (0 + (k : Int)).fmod 2) * (M.getD (Int.toNat 0) []).getD (0 + (k : Int)).toNat 0 * d = (1 - 2 * ((k : Int) % 2)) * (M.getD 0 []).getD k 0 * d := by
  rw [Int.fmod_eq_emod_of_nonneg _ (by decide), show (0 + (k : Int)).toNat = k by omega, Int.zero_add]; rfl
theorem small_le {n : Nat} (h : n ≤ 4) : Builtin.Range.small 0 (n : Int) 1 = true :=
  match n, h with
  | 0, _ => by decide
  | 1, _ => by decide
  | 2, _ => by decide
  | 3, _ => by decide
  | 4, _ => by decide
theorem size_le {n : Nat} (h : n ≤ 4) : Builtin.Range.rangeSize 0 (n : Int) 1 = (n : Int) :=
  match n, h with
  | 0, _ => by decide
  | 1, _ => by decide
  | 2, _ => by decide
  | 3, _ => by decide
  | 4, _ => by decide
end Mine
end
section
open PySem PySem.W PySem.Spec PySem.Calls PyProof.Rows
set_option Elab.async false
namespace Mine
/-- the ledger holds both tables, each with its one inner def -/
def FullIn (news : List (Addr × Obj)) : Prop := ∃ oA oB, (30, oA) ∈ news ∧ (37, oB) ∈ news ∧ TabF 32 4 "_int2digits.<locals>.inner" oA news ∧ TabF 47 4 "_digits2int.<locals>.inner" oB news
theorem FullIn.mono {l l' : List (Addr × Obj)} (x : FullIn l) (h : ∀ p ∈ l, p ∈ l') : FullIn l' :=
  let ⟨oA, oB, a, b, c, d⟩ := x; ⟨oA, oB, h _ a, h _ b, c.mono h, d.mono h⟩
/-- the tables 30 and 37 in any phase, what else must stay -/
def Phase (base nw : List (Addr × Obj)) : Prop := ∃ oA oB rest, (30, oA) ∈ nw ∧ (37, oB) ∈ nw ∧ (∀ p ∈ rest, p ∈ nw) ∧ (∀ p ∈ base, p ∈ rest) ∧ (∀ q ∈ rest, q.1 ≠ 30) ∧ (∀ q ∈ rest, q.1 ≠ 37) ∧ (oA = tabObj #[] ∨ TabF 32 4 "_int2digits.<locals>.inner" oA rest) ∧ (oB = tabObj #[] ∨ TabF 47 4 "_digits2int.<locals>.inner" oB rest)
theorem Phase.elim {base nw : List (Addr × Obj)} {P : Prop} (x : Phase base nw) (k : ∀ oA oB rest, (30, oA) ∈ nw → (37, oB) ∈ nw → (∀ p ∈ rest, p ∈ nw) → (∀ p ∈ base, p ∈ rest) → (∀ q ∈ rest, q.1 ≠ 30) → (∀ q ∈ rest, q.1 ≠ 37) → (oA = tabObj #[] ∨ TabF 32 4 "_int2digits.<locals>.inner" oA rest) → (oB = tabObj #[] ∨ TabF 47 4 "_digits2int.<locals>.inner" oB rest) → P) : P :=
  let ⟨oA, oB, rest, a, b, c, d, e, f, g, h⟩ := x; k oA oB rest a b c d e f g h
theorem iter_ns {o : Obj} {m : PySem.Str → Option Value} (x : LCg.NsObj o m) : IterObj o := fun vs h => by
  obtain ⟨es, ep, hd, _⟩ := x
  rw [h] at hd; cases hd
theorem iter_lst (ys : List Value) : IterObj (LCg.lst ys) := fun vs h => by cases h
theorem code_off {h₀ h : Heap} {L c a : Addr} {oc oo : Obj} {news : List (Addr × Obj)} {vs : Array Value} {q : PySem.Str} {t : Tok} (N : News h₀ L h news) (hc : (c, oc) ∈ news) (ho : (a, oo) ∈ news) (hd : oc.data = .fields vs) (hv : vs[1]? = some (.str q t)) (hi : IterObj oo) : c ≠ a :=
  tab_ne N hc ho fun e => by
    subst e
    obtain ⟨i, u, hx⟩ := hi vs hd
    rw [hv] at hx; cases hx
theorem iter_tab (l c : Nat) (a : Value) : ∀ vs, (tabObj #[rawInt l, rawInt c, a]).data = .fields vs → ∃ i t, vs[1]? = some (.int i t) := fun vs h => by cases h; exact ⟨_, _, rfl⟩
theorem ones_snoc {ys : List Value} {i : Nat} {v : Int} {t : Tok} (h : IntsAre ys (List.replicate i 1)) (hv : v = 1) : IntsAre (ys ++ [.int v t]) (List.replicate (i + 1) 1) := by
  subst hv
  rw [List.replicate_succ']
  exact IntsAre.append h (.cons 1 t .nil)
theorem eight (ns : List Int) : ∃ n0 n1 n2 n3 n4 n5 n6 n7, (ns ++ List.replicate 8 0).take 8 = [n0, n1, n2, n3, n4, n5, n6, n7] := by
  have h : ((ns ++ List.replicate 8 0).take 8).length = 8 := by simp
  match e : (ns ++ List.replicate 8 0).take 8, h with
  | [a, b, c, d, e', f, g, i], _ => exact ⟨a, b, c, d, e', f, g, i, rfl⟩
/-- the ledger ahead of a first rest: own things, then what must stay -/
theorem phase_news {h₀ h : Heap} {L : Addr} {own nw rest : List (Addr × Obj)} {oA oB : Obj} (N : News h₀ L h (own ++ nw)) (hA : (30, oA) ∈ nw) (hB : (37, oB) ∈ nw) (hr : ∀ p ∈ rest, p ∈ nw) : News h₀ L h ((30, oA) :: (37, oB) :: (own ++ rest)) := fun p hp => by
  rcases List.mem_cons.mp hp with rfl | hp
  · exact N _ (List.mem_append_right _ hA)
  · rcases List.mem_cons.mp hp with rfl | hp
    · exact N _ (List.mem_append_right _ hB)
    · rcases List.mem_append.mp hp with h | h
      · exact N _ (List.mem_append_left _ h)
      · exact N _ (List.mem_append_right _ (hr _ h))
theorem phase_off {own nw rest : List (Addr × Obj)} {o : Obj} {a : Addr} (ha : (a, o) ∈ nw) (off : ∀ q ∈ nw, ∀ o ∈ own, q.1 ≠ o.1) (hr : ∀ q ∈ rest, q.1 ≠ a) : ∀ q ∈ own ++ rest, q.1 ≠ a := fun q hq => by
  rcases List.mem_append.mp hq with h | h
  · exact Ne.symm (off _ ha _ h)
  · exact hr _ h
/-- a turn's end behind a first rest -/
theorem phase_turn {h₀ h' : Heap} {L : Addr} {m : PySem.Str → Option Value} {s₁ : Shared} {own nw rest base : List (Addr × Obj)} {S : List (Addr × Obj) → Prop} {re : List (Addr × Obj) → Prop} {tk : Nat} {oA oB oc1 oc2 : Obj} {c1 c2 : Addr} {v1 v2 : Array Value} {t1 t2 : Tok}
    (F : Fr h₀ L h' m) (N : News h₀ L h' ((30, tabObj #[rawInt 32, rawInt 4, .ref c1]) :: (37, tabObj #[rawInt 47, rawInt 4, .ref c2]) :: (c1, oc1) :: (c2, oc2) :: (own ++ rest)))
    (hA : (30, oA) ∈ nw) (hB : (37, oB) ∈ nw) (off : ∀ q ∈ nw, ∀ o ∈ own, q.1 ≠ o.1) (hr : ∀ p ∈ rest, p ∈ nw) (hb : ∀ p ∈ base, p ∈ rest) (h30 : ∀ q ∈ rest, q.1 ≠ 30) (h37 : ∀ q ∈ rest, q.1 ≠ 37) (hI : ∀ o ∈ own, IterObj o.2)
    (d1 : oc1.data = .fields v1) (e1 : v1[1]? = some (.str "_int2digits.<locals>.inner" t1)) (d2 : oc2.data = .fields v2) (e2 : v2[1]? = some (.str "_digits2int.<locals>.inner" t2))
    (hS : ∀ x, (∀ p ∈ rest, p ∈ x) → S x) (hre : ∀ x, Phase base x → FullIn x → re x) : TurnEnd h₀ L m s₁ own S re { s₁ with heap := h', toks := tk } := by
  have m1 : (c1, oc1) ∈ (30, tabObj #[rawInt 32, rawInt 4, .ref c1]) :: (37, tabObj #[rawInt 47, rawInt 4, .ref c2]) :: (c1, oc1) :: (c2, oc2) :: (own ++ rest) := .tail _ (.tail _ (.head _))
  have m2 : (c2, oc2) ∈ (30, tabObj #[rawInt 32, rawInt 4, .ref c1]) :: (37, tabObj #[rawInt 47, rawInt 4, .ref c2]) :: (c1, oc1) :: (c2, oc2) :: (own ++ rest) := .tail _ (.tail _ (.tail _ (.head _)))
  have n130 : c1 ≠ 30 := code_off N m1 (.head _) d1 e1 (iter_tab _ _ _)
  have n230 : c2 ≠ 30 := code_off N m2 (.head _) d2 e2 (iter_tab _ _ _)
  have n137 : c1 ≠ 37 := code_off N m1 (.tail _ (.head _)) d1 e1 (iter_tab _ _ _)
  have n237 : c2 ≠ 37 := code_off N m2 (.tail _ (.head _)) d2 e2 (iter_tab _ _ _)
  have tA : TabF 32 4 "_int2digits.<locals>.inner" (tabObj #[rawInt 32, rawInt 4, .ref c1]) ((c1, oc1) :: (c2, oc2) :: rest) := ⟨c1, oc1, v1, t1, rfl, .head _, d1, e1⟩
  have tB : TabF 47 4 "_digits2int.<locals>.inner" (tabObj #[rawInt 47, rawInt 4, .ref c2]) ((c1, oc1) :: (c2, oc2) :: rest) := ⟨c2, oc2, v2, t2, rfl, .tail _ (.head _), d2, e2⟩
  have ph : Phase base ((30, tabObj #[rawInt 32, rawInt 4, .ref c1]) :: (37, tabObj #[rawInt 47, rawInt 4, .ref c2]) :: (c1, oc1) :: (c2, oc2) :: rest) := by
    refine ⟨_, _, (c1, oc1) :: (c2, oc2) :: rest, .head _, .tail _ (.head _), fun p hp => .tail _ (.tail _ hp), fun p hp => .tail _ (.tail _ (hb p hp)), fun q hq => ?_, fun q hq => ?_, .inr tA, .inr tB⟩
    · rcases List.mem_cons.mp hq with rfl | hq
      · exact n130
      · rcases List.mem_cons.mp hq with rfl | hq
        · exact n230
        · exact h30 q hq
    · rcases List.mem_cons.mp hq with rfl | hq
      · exact n137
      · rcases List.mem_cons.mp hq with rfl | hq
        · exact n237
        · exact h37 q hq
  refine TurnEnd.intro F N ((30, tabObj #[rawInt 32, rawInt 4, .ref c1]) :: (37, tabObj #[rawInt 47, rawInt 4, .ref c2]) :: (c1, oc1) :: (c2, oc2) :: rest) (fun p hp => ?_) (fun q hq o ho => ?_) (hS _ fun p hp => .tail _ (.tail _ (.tail _ (.tail _ hp))))
    (hre _ ph ⟨_, _, .head _, .tail _ (.head _), tA.mono fun p hp => .tail _ (.tail _ hp), tB.mono fun p hp => .tail _ (.tail _ hp)⟩)
  · rcases List.mem_append.mp hp with h | h
    · exact .tail _ (.tail _ (.tail _ (.tail _ (List.mem_append_left _ h))))
    · simp only [List.mem_cons] at h
      rcases h with rfl | rfl | rfl | rfl | h
      · exact .head _
      · exact .tail _ (.head _)
      · exact m1
      · exact m2
      · exact .tail _ (.tail _ (.tail _ (.tail _ (List.mem_append_right _ h))))
  · have mo : o ∈ (30, tabObj #[rawInt 32, rawInt 4, .ref c1]) :: (37, tabObj #[rawInt 47, rawInt 4, .ref c2]) :: (c1, oc1) :: (c2, oc2) :: (own ++ rest) := .tail _ (.tail _ (.tail _ (.tail _ (List.mem_append_left _ ho))))
    simp only [List.mem_cons] at hq
    rcases hq with rfl | rfl | rfl | rfl | hq
    · exact off _ hA o ho
    · exact off _ hB o ho
    · exact code_off N m1 mo d1 e1 (hI o ho)
    · exact code_off N m2 mo d2 e2 (hI o ho)
    · exact off _ (hr _ hq) o ho
theorem roots_at {i : Nat} {v : Value} {t0 t1 t2 t3 : Tok} (h : (#[Value.int 1 t0, Value.int 4 t1, Value.int 16 t2, Value.int 13 t3] : Array Value)[i]? = some v) {P : Prop}
    (k : ∀ r t, v = .int r t → 0 ≤ r ∧ r < 17 → 0 ≤ r ^ (4 : Int).toNat ∧ r ^ (4 : Int).toNat < 70000 → r ^ (4 : Int).toNat % 17 = 1 → ([1, 4, 16, 13] : List Int)[i]? = some r → P) : P := by
  match i, h with
  | 0, h => cases h; exact k 1 t0 rfl (by decide) (by decide) (by decide) rfl
  | 1, h => cases h; exact k 4 t1 rfl (by decide) (by decide) (by decide) rfl
  | 2, h => cases h; exact k 16 t2 rfl (by decide) (by decide) (by decide) rfl
  | 3, h => cases h; exact k 13 t3 rfl (by decide) (by decide) (by decide) rfl
theorem bytes_same : ∀ {l l' : List UInt8}, l.map (fun c => (c.toNat : Int)) = l'.map (fun c => (c.toNat : Int)) → l = l'
  | [], [], _ => rfl
  | [], _ :: _, h => by simp at h
  | _ :: _, [], h => by simp at h
  | a :: l, b :: l', h => by
    simp only [List.map_cons, List.cons.injEq] at h
    have e : a = b := UInt8.toNat_inj.mp (by have := h.1; omega)
    rw [e, bytes_same h.2]
theorem ne_same {prog : Program} {w : World} {A : Around} {E : Value → Shared → Prop} {s : Shared} {b c : Array UInt8} {t u : Tok} {ns : List Int} {Q : Value → Shared → Prop} (h : KBw.bInts b = ns) (h' : KBw.bInts c = ns) (hq : Q (.bool false) s) : wpAny (model prog w) A (compareOp .NotEq (.bytes b t) (.bytes c u)) Q E s := by
  refine ne_bytes ?_
  have e : b.toList = c.toList := bytes_same (h.trans h'.symm)
  rw [e, bne_self_eq_false]
  exact hq
def taken_val (M N : List (List Int)) : List (List Int) := (List.range 4).map fun j => (List.range 4).map fun k => ((List.range 4).map fun i => (M.getD j []).getD i 0 * (N.getD i []).getD k 0).sum % 17
theorem in4 {a b c d : Int} (g0 : 0 ≤ a ∧ a < 17) (g1 : 0 ≤ b ∧ b < 17) (g2 : 0 ≤ c ∧ c < 17) (g3 : 0 ≤ d ∧ d < 17) : KBa.In [a, b, c, d] := by
  intro n hn
  simp only [List.mem_cons, List.not_mem_nil, or_false] at hn
  omega
theorem table_len4 {r0 r1 r2 r3 : Int} : ∀ r ∈ table_val r0 r1 r2 r3, r.length = 4 := by
  intro r hr
  simp only [table_val, List.mem_cons, List.not_mem_nil, or_false] at hr
  rcases hr with rfl | rfl | rfl | rfl <;> rfl
end Mine
end
section
open PySem PySem.W PySem.Spec PySem.Calls PyProof.Rows
set_option Elab.async false
namespace Mine
theorem emod_eq_of {a b k : Int} (h : a = b + 17 * k) : a % 17 = b % 17 := by omega
/-- what the row tells at a root, its rest -/
def atv (r0 r1 r2 r3 x : Int) : Int := at_val r0 r1 r2 r3 x % 17
theorem prod_eq (r0 r1 r2 r3 : Int) : prod_val r0 r1 r2 r3 = (at_val r0 r1 r2 r3 1 * at_val r0 r1 r2 r3 4 * at_val r0 r1 r2 r3 16 * at_val r0 r1 r2 r3 13) % 17 := by
  unfold prod_val
  simp only [List.foldl]
  rw [Int.one_mul]
  generalize at_val r0 r1 r2 r3 1 = a
  generalize at_val r0 r1 r2 r3 4 = b
  generalize at_val r0 r1 r2 r3 16 = c
  generalize at_val r0 r1 r2 r3 13 = d
  rw [Int.emod_emod_of_dvd _ (Int.dvd_refl 17)]
  rw [← Int.mul_emod a b, ← Int.mul_emod (a * b) c, ← Int.mul_emod (a * b * c) d]
theorem det_eq (r0 r1 r2 r3 : Int) : detv 4 (table_val r0 r1 r2 r3) = (r0 + r1 + r2 + r3) * (r0 - r1 + r2 - r3) * ((r0 - r2) * (r0 - r2) + (r1 - r3) * (r1 - r3)) := by
  simp only [detv, table_val, List.range, List.range.loop, List.map_cons, List.map_nil, List.sum_cons, List.sum_nil, List.drop, List.take, List.getD_cons_zero, List.getD_cons_succ, List.nil_append, List.cons_append]
  grind
/-- the same rest by seventeen -/
def C17 (a b : Int) : Prop := ∃ k, a = b + 17 * k
theorem C17.refl (a : Int) : C17 a a := ⟨0, by omega⟩
theorem C17.of_eq {a b : Int} (h : a = b) : C17 a b := ⟨0, by omega⟩
theorem C17.mul {a b c d : Int} (h : C17 a b) (h' : C17 c d) : C17 (a * c) (b * d) := by
  obtain ⟨k, rfl⟩ := h
  obtain ⟨l, rfl⟩ := h'
  exact ⟨b * l + k * d + 17 * (k * l), by grind⟩
theorem C17.add {a b c d : Int} (h : C17 a b) (h' : C17 c d) : C17 (a + c) (b + d) := by
  obtain ⟨k, rfl⟩ := h
  obtain ⟨l, rfl⟩ := h'
  exact ⟨k + l, by omega⟩
theorem C17.sub {a b c d : Int} (h : C17 a b) (h' : C17 c d) : C17 (a - c) (b - d) := by
  obtain ⟨k, rfl⟩ := h
  obtain ⟨l, rfl⟩ := h'
  exact ⟨k - l, by omega⟩
theorem C17.trans {a b c : Int} (h : C17 a b) (h' : C17 b c) : C17 a c := by
  obtain ⟨k, rfl⟩ := h
  obtain ⟨l, rfl⟩ := h'
  exact ⟨k + l, by omega⟩
theorem C17.symm {a b : Int} (h : C17 a b) : C17 b a := by
  obtain ⟨k, rfl⟩ := h
  exact ⟨-k, by omega⟩
theorem C17.emod {a b : Int} (h : C17 a b) : a % 17 = b % 17 := by
  obtain ⟨k, rfl⟩ := h
  omega
theorem C17.rest (a : Int) : C17 (a % 17) a := ⟨-(a / 17), by omega⟩
theorem C17.of_emod {a b : Int} (h : a % 17 = b % 17) : C17 a b := ⟨a / 17 - b / 17, by omega⟩
theorem at_one (r0 r1 r2 r3 : Int) : at_val r0 r1 r2 r3 1 = r0 + r1 + r2 + r3 := by unfold at_val; omega
theorem at_16 (r0 r1 r2 r3 : Int) : C17 (at_val r0 r1 r2 r3 16) (r0 - r1 + r2 - r3) := ⟨r1 + 15 * r2 + 241 * r3, by unfold at_val; omega⟩
theorem at_4 (r0 r1 r2 r3 : Int) : C17 (at_val r0 r1 r2 r3 4) ((r0 - r2) + 4 * (r1 - r3)) := ⟨r2 + 4 * r3, by unfold at_val; omega⟩
theorem at_13 (r0 r1 r2 r3 : Int) : C17 (at_val r0 r1 r2 r3 13) ((r0 - r2) - 4 * (r1 - r3)) := ⟨r1 + 10 * r2 + 129 * r3, by unfold at_val; omega⟩
theorem prod_C (r0 r1 r2 r3 : Int) : C17 (prod_val r0 r1 r2 r3) ((r0 + r1 + r2 + r3) * (r0 - r1 + r2 - r3) * ((r0 - r2) * (r0 - r2) + (r1 - r3) * (r1 - r3))) := by
  rw [prod_eq]
  refine (C17.rest _).trans ?_
  rw [at_one]
  refine (C17.mul (C17.mul (C17.mul (C17.refl _) (at_4 r0 r1 r2 r3)) (at_16 r0 r1 r2 r3)) (at_13 r0 r1 r2 r3)).trans ?_
  exact ⟨-((r0 + r1 + r2 + r3) * (r0 - r1 + r2 - r3) * ((r1 - r3) * (r1 - r3))), by grind⟩
theorem prod_rest {r0 r1 r2 r3 : Int} : prod_val r0 r1 r2 r3 % 17 = prod_val r0 r1 r2 r3 := by
  rw [prod_eq]; omega
theorem plain_det {r0 r1 r2 r3 : Int} (_ : 0 ≤ r0 ∧ r0 < 17) (_ : 0 ≤ r1 ∧ r1 < 17) (_ : 0 ≤ r2 ∧ r2 < 17) (_ : 0 ≤ r3 ∧ r3 < 17) : detv 4 (table_val r0 r1 r2 r3) % 17 = prod_val r0 r1 r2 r3 := by
  rw [det_eq, ← (prod_C r0 r1 r2 r3).emod, prod_rest]
theorem plain_halves {r0 r1 r2 r3 : Int} : (((r0 + r2) % 17 * ((r0 + r2) % 17) - (r1 + r3) % 17 * ((r1 + r3) % 17)) * ((r0 - r2) * (r0 - r2) + (r1 - r3) * (r1 - r3))) % 17 = prod_val r0 r1 r2 r3 := by
  rw [← prod_rest]
  refine C17.emod (C17.trans ?_ (prod_C r0 r1 r2 r3).symm)
  refine (C17.mul (C17.sub (C17.mul (C17.rest (r0 + r2)) (C17.rest (r0 + r2))) (C17.mul (C17.rest (r1 + r3)) (C17.rest (r1 + r3)))) (C17.refl _)).trans (C17.of_eq ?_)
  grind
theorem plain_turned {r0 r1 r2 r3 : Int} : prod_val r0 r3 r2 r1 = prod_val r0 r1 r2 r3 := by
  rw [← prod_rest, ← prod_rest (r1 := r1)]
  refine C17.emod (((prod_C r0 r3 r2 r1).trans (C17.of_eq ?_)).trans (prod_C r0 r1 r2 r3).symm)
  grind
theorem at_round (r0 r1 r2 r3 o0 o1 o2 o3 v0 v1 v2 v3 x : Int) (hx : C17 (x * x * x * x) 1) (h0 : C17 v0 (r0 * o0 + r1 * o3 + r2 * o2 + r3 * o1)) (h1 : C17 v1 (r0 * o1 + r1 * o0 + r2 * o3 + r3 * o2)) (h2 : C17 v2 (r0 * o2 + r1 * o1 + r2 * o0 + r3 * o3)) (h3 : C17 v3 (r0 * o3 + r1 * o2 + r2 * o1 + r3 * o0)) :
    C17 (at_val v0 v1 v2 v3 x) (at_val r0 r1 r2 r3 x * at_val o0 o1 o2 o3 x) := by
  obtain ⟨k0, rfl⟩ := h0
  obtain ⟨k1, rfl⟩ := h1
  obtain ⟨k2, rfl⟩ := h2
  obtain ⟨k3, rfl⟩ := h3
  obtain ⟨kx, hx⟩ := hx
  unfold at_val
  refine ⟨k0 + k1 * x + k2 * (x * x) + k3 * (x * x * x) - kx * ((r1 * o3 + r2 * o2 + r3 * o1) + (r2 * o3 + r3 * o2) * x + r3 * o3 * (x * x)), ?_⟩
  grind
theorem plain_mult {r0 r1 r2 r3 o0 o1 o2 o3 v0 v1 v2 v3 : Int} (hv : round_val r0 r1 r2 r3 o0 o1 o2 o3 = [v0, v1, v2, v3]) : prod_val r0 r1 r2 r3 * prod_val o0 o1 o2 o3 % 17 = prod_val v0 v1 v2 v3 := by
  simp only [round_val, List.cons.injEq, and_true] at hv
  obtain ⟨e0, e1, e2, e3⟩ := hv
  have c0 := e0 ▸ C17.rest (r0 * o0 + r1 * o3 + r2 * o2 + r3 * o1)
  have c1 := e1 ▸ C17.rest (r0 * o1 + r1 * o0 + r2 * o3 + r3 * o2)
  have c2 := e2 ▸ C17.rest (r0 * o2 + r1 * o1 + r2 * o0 + r3 * o3)
  have c3 := e3 ▸ C17.rest (r0 * o3 + r1 * o2 + r2 * o1 + r3 * o0)
  have a := at_round r0 r1 r2 r3 o0 o1 o2 o3 v0 v1 v2 v3
  have a1 := a 1 ⟨0, by decide⟩ c0 c1 c2 c3
  have a4 := a 4 ⟨15, by decide⟩ c0 c1 c2 c3
  have a16 := a 16 ⟨3855, by decide⟩ c0 c1 c2 c3
  have a13 := a 13 ⟨1680, by decide⟩ c0 c1 c2 c3
  rw [prod_eq v0 v1 v2 v3]
  refine C17.emod (C17.symm ?_)
  refine (C17.mul (C17.mul (C17.mul a1 a4) a16) a13).trans (C17.trans (C17.of_eq ?_) (C17.mul (C17.rest (at_val r0 r1 r2 r3 1 * at_val r0 r1 r2 r3 4 * at_val r0 r1 r2 r3 16 * at_val r0 r1 r2 r3 13)).symm (C17.rest (at_val o0 o1 o2 o3 1 * at_val o0 o1 o2 o3 4 * at_val o0 o1 o2 o3 16 * at_val o0 o1 o2 o3 13)).symm)) |>.trans (C17.of_eq (by rw [← prod_eq, ← prod_eq]))
  grind
def rootAt (i : Nat) : Int := ([1, 4, 16, 13] : List Int).getD i 0
theorem zero_fin : ∀ v a : Fin 17, ((v.val : Int) * (a.val : Int) % 17 == 0) = ((v.val : Int) == 0 || (a.val : Int) == 0) := by decide
theorem zero_mul17 {v a : Int} (h0 : 0 ≤ v) (h1 : v < 17) (g0 : 0 ≤ a) (g1 : a < 17) : (v * a % 17 == 0) = (v == 0 || a == 0) := by
  have h := zero_fin ⟨v.toNat, by omega⟩ ⟨a.toNat, by omega⟩
  rw [show ((v.toNat : Nat) : Int) = v by omega, show ((a.toNat : Nat) : Int) = a by omega] at h
  exact h
theorem plain_zero {r0 r1 r2 r3 : Int} : ((prod_val r0 r1 r2 r3 == 0) != ((List.range 4).map fun i => atv r0 r1 r2 r3 (rootAt i)).any fun x => x == 0) = false := by
  have e : ((List.range 4).map fun i => atv r0 r1 r2 r3 (rootAt i)) = [at_val r0 r1 r2 r3 1 % 17, at_val r0 r1 r2 r3 4 % 17, at_val r0 r1 r2 r3 16 % 17, at_val r0 r1 r2 r3 13 % 17] := rfl
  rw [e]
  unfold prod_val
  simp only [List.foldl, List.any_cons, List.any_nil, Bool.or_false]
  generalize at_val r0 r1 r2 r3 1 = a
  generalize at_val r0 r1 r2 r3 4 = b
  generalize at_val r0 r1 r2 r3 16 = c
  generalize at_val r0 r1 r2 r3 13 = d
  rw [zero_mul17 (by omega) (by omega) (by omega) (by omega), zero_mul17 (by omega) (by omega) (by omega) (by omega), zero_mul17 (by omega) (by omega) (by omega) (by omega), zero_mul17 (by omega) (by omega) (by omega) (by omega)]
  rw [show ((1 : Int) == 0) = false from rfl, Bool.false_or, Bool.or_assoc, Bool.or_assoc]
  simp
theorem halves_bound {r0 r1 r2 r3 : Int} (g0 : 0 ≤ r0 ∧ r0 < 17) (g1 : 0 ≤ r1 ∧ r1 < 17) (g2 : 0 ≤ r2 ∧ r2 < 17) (g3 : 0 ≤ r3 ∧ r3 < 17) :
    -140000 ≤ ((r0 + r2) % 17 * ((r0 + r2) % 17) - (r1 + r3) % 17 * ((r1 + r3) % 17)) * ((r0 - r2) * (r0 - r2) + (r1 - r3) * (r1 - r3)) ∧ ((r0 + r2) % 17 * ((r0 + r2) % 17) - (r1 + r3) % 17 * ((r1 + r3) % 17)) * ((r0 - r2) * (r0 - r2) + (r1 - r3) * (r1 - r3)) ≤ 140000 := by
  have sq : ∀ x : Int, -16 ≤ x → x ≤ 16 → 0 ≤ x * x ∧ x * x ≤ 256 := fun x h1 h2 => by
    rcases Int.le_total 0 x with h | h
    · exact mul_le (A := 16) (B := 16) h h h2 h2
    · have := mul_le (a := -x) (b := -x) (A := 16) (B := 16) (by omega) (by omega) (by omega) (by omega)
      rw [Int.neg_mul_neg] at this; exact this
  have e0 := sq ((r0 + r2) % 17) (by omega) (by omega)
  have e1 := sq ((r1 + r3) % 17) (by omega) (by omega)
  have o0 := sq (r0 - r2) (by omega) (by omega)
  have o1 := sq (r1 - r3) (by omega) (by omega)
  generalize (r0 + r2) % 17 * ((r0 + r2) % 17) = p at *
  generalize (r1 + r3) % 17 * ((r1 + r3) % 17) = q at *
  generalize (r0 - r2) * (r0 - r2) = u at *
  generalize (r1 - r3) * (r1 - r3) = v at *
  have h1 : (p - q) * (u + v) ≤ 256 * (u + v) := Int.mul_le_mul_of_nonneg_right (by omega) (by omega)
  have h2 : -256 * (u + v) ≤ (p - q) * (u + v) := Int.mul_le_mul_of_nonneg_right (by omega) (by omega)
  constructor <;> omega
theorem back_lin {r0 r1 r2 r3 i0 i1 i2 i3 : Int} (h0 : C17 (i0 * at_val r0 r1 r2 r3 1) 1) (h1 : C17 (i1 * at_val r0 r1 r2 r3 4) 1) (h2 : C17 (i2 * at_val r0 r1 r2 r3 16) 1) (h3 : C17 (i3 * at_val r0 r1 r2 r3 13) 1) {b0 b1 b2 b3 : Int}
    (c0 : C17 b0 (13 * (i0 + 256 * i1 + 65536 * i2 + 28561 * i3))) (c1 : C17 b1 (13 * (i0 + 64 * i1 + 4096 * i2 + 2197 * i3))) (c2 : C17 b2 (13 * (i0 + 16 * i1 + 256 * i2 + 169 * i3))) (c3 : C17 b3 (13 * (i0 + 4 * i1 + 16 * i2 + 13 * i3))) :
    round_val r0 r1 r2 r3 b0 b1 b2 b3 = [1, 0, 0, 0] := by
  obtain ⟨m0, h0⟩ := h0
  obtain ⟨m1, h1⟩ := h1
  obtain ⟨m2, h2⟩ := h2
  obtain ⟨m3, h3⟩ := h3
  obtain ⟨k0, rfl⟩ := c0
  obtain ⟨k1, rfl⟩ := c1
  obtain ⟨k2, rfl⟩ := c2
  obtain ⟨k3, rfl⟩ := c3
  unfold at_val at h0 h1 h2 h3
  have l0 : i0 * r0 + i0 * r1 + i0 * r2 + i0 * r3 = 1 + 17 * m0 := by grind
  have l1 : i1 * r0 + 4 * (i1 * r1) + 16 * (i1 * r2) + 64 * (i1 * r3) = 1 + 17 * m1 := by grind
  have l2 : i2 * r0 + 16 * (i2 * r1) + 256 * (i2 * r2) + 4096 * (i2 * r3) = 1 + 17 * m2 := by grind
  have l3 : i3 * r0 + 13 * (i3 * r1) + 169 * (i3 * r2) + 2197 * (i3 * r3) = 1 + 17 * m3 := by grind
  have d : ∀ r k a b c e : Int, r * (13 * (i0 + a * i1 + b * i2 + c * i3) + 17 * k) = 13 * (i0 * r) + 13 * a * (i1 * r) + 13 * b * (i2 * r) + 13 * c * (i3 * r) + 17 * (r * k) := fun r k a b c _ => by grind
  have q : ∀ x y : Int, C17 x y → 0 ≤ y → y < 17 → x % 17 = y := fun x y h h1 h2 => by rw [h.emod]; omega
  unfold round_val
  rw [d r0 k0 256 65536 28561 0, d r1 k3 4 16 13 0, d r2 k2 16 256 169 0, d r3 k1 64 4096 2197 0, d r0 k1 64 4096 2197 0, d r1 k0 256 65536 28561 0, d r2 k3 4 16 13 0, d r3 k2 16 256 169 0,
    d r0 k2 16 256 169 0, d r1 k1 64 4096 2197 0, d r2 k0 256 65536 28561 0, d r3 k3 4 16 13 0, d r0 k3 4 16 13 0, d r1 k2 16 256 169 0, d r2 k1 64 4096 2197 0, d r3 k0 256 65536 28561 0]
  clear h0 h1 h2 h3 d
  generalize i0 * r0 = p00 at *
  generalize i0 * r1 = p01 at *
  generalize i0 * r2 = p02 at *
  generalize i0 * r3 = p03 at *
  generalize i1 * r0 = p10 at *
  generalize i1 * r1 = p11 at *
  generalize i1 * r2 = p12 at *
  generalize i1 * r3 = p13 at *
  generalize i2 * r0 = p20 at *
  generalize i2 * r1 = p21 at *
  generalize i2 * r2 = p22 at *
  generalize i2 * r3 = p23 at *
  generalize i3 * r0 = p30 at *
  generalize i3 * r1 = p31 at *
  generalize i3 * r2 = p32 at *
  generalize i3 * r3 = p33 at *
  obtain rfl : p00 = 1 + 17 * m0 - p01 - p02 - p03 := by omega
  obtain rfl : p10 = 1 + 17 * m1 - 4 * p11 - 16 * p12 - 64 * p13 := by omega
  obtain rfl : p20 = 1 + 17 * m2 - 16 * p21 - 256 * p22 - 4096 * p23 := by omega
  obtain rfl : p30 = 1 + 17 * m3 - 13 * p31 - 169 * p32 - 2197 * p33 := by omega
  congr 1
  · omega
  · congr 1
    · omega
    · congr 1
      · omega
      · congr 1
        omega
theorem rootAt_of {i : Nat} {r : Int} (h : ([1, 4, 16, 13] : List Int)[i]? = some r) : rootAt i = r := by
  unfold rootAt; rw [List.getD_eq_getElem?_getD, h]; rfl
theorem plain_comm {r0 r1 r2 r3 o0 o1 o2 o3 : Int} : round_val o0 o1 o2 o3 r0 r1 r2 r3 = round_val r0 r1 r2 r3 o0 o1 o2 o3 := by
  have c : ∀ a b : Int, a * b = b * a := Int.mul_comm
  unfold round_val
  rw [c o0 r0, c o1 r3, c o2 r2, c o3 r1, c o0 r1, c o1 r0, c o2 r3, c o3 r2, c o0 r2, c o1 r1, c o2 r0, c o3 r3, c o0 r3, c o1 r2, c o2 r1, c o3 r0]
  congr 1
  · congr 1; omega
  · congr 1
    · congr 1; omega
    · congr 1
      · congr 1; omega
      · congr 1
        congr 1; omega
theorem plain_taken {r0 r1 r2 r3 o0 o1 o2 o3 v0 v1 v2 v3 : Int} (hv : round_val r0 r1 r2 r3 o0 o1 o2 o3 = [v0, v1, v2, v3]) : (!decide (taken_val (table_val r0 r1 r2 r3) (table_val o0 o1 o2 o3) = table_val v0 v1 v2 v3)) = false := by
  simp only [round_val, List.cons.injEq, and_true] at hv
  obtain ⟨e0, e1, e2, e3⟩ := hv
  have e : taken_val (table_val r0 r1 r2 r3) (table_val o0 o1 o2 o3) = table_val v0 v1 v2 v3 := by
    show [[(r0 * o0 + (r1 * o3 + (r2 * o2 + (r3 * o1 + 0)))) % 17, (r0 * o1 + (r1 * o0 + (r2 * o3 + (r3 * o2 + 0)))) % 17, (r0 * o2 + (r1 * o1 + (r2 * o0 + (r3 * o3 + 0)))) % 17, (r0 * o3 + (r1 * o2 + (r2 * o1 + (r3 * o0 + 0)))) % 17],
      [(r3 * o0 + (r0 * o3 + (r1 * o2 + (r2 * o1 + 0)))) % 17, (r3 * o1 + (r0 * o0 + (r1 * o3 + (r2 * o2 + 0)))) % 17, (r3 * o2 + (r0 * o1 + (r1 * o0 + (r2 * o3 + 0)))) % 17, (r3 * o3 + (r0 * o2 + (r1 * o1 + (r2 * o0 + 0)))) % 17],
      [(r2 * o0 + (r3 * o3 + (r0 * o2 + (r1 * o1 + 0)))) % 17, (r2 * o1 + (r3 * o0 + (r0 * o3 + (r1 * o2 + 0)))) % 17, (r2 * o2 + (r3 * o1 + (r0 * o0 + (r1 * o3 + 0)))) % 17, (r2 * o3 + (r3 * o2 + (r0 * o1 + (r1 * o0 + 0)))) % 17],
      [(r1 * o0 + (r2 * o3 + (r3 * o2 + (r0 * o1 + 0)))) % 17, (r1 * o1 + (r2 * o0 + (r3 * o3 + (r0 * o2 + 0)))) % 17, (r1 * o2 + (r2 * o1 + (r3 * o0 + (r0 * o3 + 0)))) % 17, (r1 * o3 + (r2 * o2 + (r3 * o1 + (r0 * o0 + 0)))) % 17]] = [[v0, v1, v2, v3], [v3, v0, v1, v2], [v2, v3, v0, v1], [v1, v2, v3, v0]]
    simp only [List.cons.injEq, and_true]
    refine ⟨⟨?_, ?_, ?_, ?_⟩, ⟨?_, ?_, ?_, ?_⟩, ⟨?_, ?_, ?_, ?_⟩, ⟨?_, ?_, ?_, ?_⟩⟩ <;> omega
  rw [e]; simp
/-- the ones whose product with a leaves one *-/
def invL (n : Nat) (a : Int) : List Int := ((List.range n).map fun j : Nat => (j : Int)).filter fun x => decide (x * a % 17 = 1)
def inv17 (a : Int) : Int := (invL 17 a).getD 0 0
theorem invL_true {n : Nat} {a : Int} (h : (n : Int) * a % 17 = 1) : invL (n + 1) a = invL n a ++ [(n : Int)] := by
  unfold invL
  rw [List.range_succ, List.map_append, List.filter_append]
  simp [h]
theorem invL_false {n : Nat} {a : Int} (h : (n : Int) * a % 17 ≠ 1) : invL (n + 1) a = invL n a := by
  unfold invL
  rw [List.range_succ, List.map_append, List.filter_append]
  simp [h]
theorem inv_ok : ∀ a : Fin 17, 0 < a.val → 0 < (invL 17 (a.val : Int)).length ∧ inv17 (a.val : Int) * (a.val : Int) % 17 = 1 ∧ 0 ≤ inv17 (a.val : Int) ∧ inv17 (a.val : Int) < 17 := by decide
theorem inv_at {a : Int} (h0 : 0 < a) (h1 : a < 17) : 0 < (invL 17 a).length ∧ inv17 a * a % 17 = 1 ∧ 0 ≤ inv17 a ∧ inv17 a < 17 := by
  have h := inv_ok ⟨a.toNat, by omega⟩ (by show 0 < a.toNat; omega)
  rw [show ((a.toNat : Nat) : Int) = a by omega] at h
  exact h
theorem atv_bound {r0 r1 r2 r3 x : Int} : 0 ≤ atv r0 r1 r2 r3 x ∧ atv r0 r1 r2 r3 x < 17 := by
  unfold atv; omega
def JInv (A : Int) (news : List (Addr × Obj)) (j : Nat) (ys : List Value) (nw : List (Addr × Obj)) : Prop := (∀ p ∈ news, p ∈ nw) ∧ IntsAre ys (invL j A)
theorem JInv.start {A : Int} {news : List (Addr × Obj)} : JInv A news 0 [] news := ⟨fun _ h => h, .nil⟩
theorem invL_le (n : Nat) (a : Int) : (invL n a).length ≤ n := by
  unfold invL
  refine Nat.le_trans (List.length_filter_le _ _) ?_
  rw [List.length_map, List.length_range]; exact Nat.le_refl _
theorem JInv.len {A : Int} {news : List (Addr × Obj)} : ∀ i ys nw, JInv A news i ys nw → ys.length ≤ i := fun i ys nw h => by
  rw [h.2.length]; exact invL_le i A
theorem JInv.yes {A : Int} {news nw : List (Addr × Obj)} {j : Nat} {ys : List Value} {v : Int} {t : Tok} (x : JInv A news j ys nw) (hv : v = (j : Int)) (h : (j : Int) * A % 17 = 1) : JInv A news (j + 1) (ys ++ [.int v t]) nw := by
  subst hv
  refine ⟨x.1, ?_⟩
  rw [invL_true h]
  exact IntsAre.append x.2 (.cons _ t .nil)
theorem JInv.no {A : Int} {news nw : List (Addr × Obj)} {j : Nat} {ys : List Value} (x : JInv A news j ys nw) (h : (j : Int) * A % 17 ≠ 1) : JInv A news (j + 1) ys nw := by
  refine ⟨x.1, ?_⟩
  rw [invL_false h]
  exact x.2
theorem atv_pos {r0 r1 r2 r3 : Int} (h : prod_val r0 r1 r2 r3 ≠ 0) {i : Nat} (hi : i < 4) : 0 < atv r0 r1 r2 r3 (rootAt i) := by
  have hz := plain_zero (r0 := r0) (r1 := r1) (r2 := r2) (r3 := r3)
  have hb := atv_bound (r0 := r0) (r1 := r1) (r2 := r2) (r3 := r3) (x := rootAt i)
  refine Int.lt_iff_le_and_ne.mpr ⟨hb.1, fun e => h ?_⟩
  have : ((List.range 4).map fun i => atv r0 r1 r2 r3 (rootAt i)).any (fun x => x == 0) = true := by
    rw [List.any_eq_true]
    exact ⟨_, List.mem_map.mpr ⟨i, List.mem_range.mpr hi, rfl⟩, by rw [← e]; rfl⟩
  rw [this] at hz
  simpa using hz
theorem cond_yes {j : Nat} {x : Int} (h : ((0 + (j : Int)) * x).fmod 17 = 1) : (j : Int) * x % 17 = 1 := by
  rw [Int.zero_add, Int.fmod_eq_emod_of_nonneg _ (by decide)] at h; exact h
theorem cond_no {j : Nat} {x : Int} (h : ((0 + (j : Int)) * x).fmod 17 ≠ 1) : (j : Int) * x % 17 ≠ 1 := by
  rw [Int.zero_add, Int.fmod_eq_emod_of_nonneg _ (by decide)] at h; exact h
def backs (r0 r1 r2 r3 : Int) (k : Nat) : Int := ((List.range 4).map fun j : Nat => inv17 (atv r0 r1 r2 r3 (rootAt j)) * rootAt j ^ (4 - k)).sum
def backv (r0 r1 r2 r3 : Int) (k : Nat) : Int := 13 * backs r0 r1 r2 r3 k % 17
theorem backv_bound {r0 r1 r2 r3 : Int} {k : Nat} : 0 ≤ backv r0 r1 r2 r3 k ∧ backv r0 r1 r2 r3 k < 17 := by unfold backv; omega
theorem inv_getD {r0 r1 r2 r3 : Int} {j : Nat} (hj : j < 4) : ((List.range 4).map fun i => inv17 (atv r0 r1 r2 r3 (rootAt i))).getD (0 + (j : Int)).toNat 0 = inv17 (atv r0 r1 r2 r3 (rootAt j)) := by
  rw [show (0 + (j : Int)).toNat = j by omega, List.getD_eq_getElem?_getD, List.getElem?_map, List.getElem?_range hj]; rfl
theorem ones_fit {r0 r1 r2 r3 b : Int} {j : Nat} (h : prod_val r0 r1 r2 r3 ≠ 0) (hj : j < 4) : IntMulOk (((List.range 4).map fun i => inv17 (atv r0 r1 r2 r3 (rootAt i))).getD (0 + (j : Int)).toNat 0) b := by
  have hi := inv_at (atv_pos h hj) atv_bound.2
  exact mulFit (by rw [inv_getD hj]; exact hi.2.2)
theorem ones_eq {r0 r1 r2 r3 : Int} {j k : Nat} (hj : j < 4) (hk : k < 4) : ((List.range 4).map fun i => inv17 (atv r0 r1 r2 r3 (rootAt i))).getD (0 + (j : Int)).toNat 0 * ([1, 4, 16, 13] : List Int).getD (0 + (j : Int)).toNat 0 ^ (4 - (0 + (k : Int))).toNat = inv17 (atv r0 r1 r2 r3 (rootAt j)) * rootAt j ^ (4 - k) := by
  rw [inv_getD hj, show (0 + (j : Int)).toNat = j by omega, show (4 - (0 + (k : Int))).toNat = 4 - k by omega]; rfl
theorem det_bound {r0 r1 r2 r3 : Int} (g0 : 0 ≤ r0 ∧ r0 < 17) (g1 : 0 ≤ r1 ∧ r1 < 17) (g2 : 0 ≤ r2 ∧ r2 < 17) (g3 : 0 ≤ r3 ∧ r3 < 17) : -1572864 ≤ detv 4 (table_val r0 r1 r2 r3) ∧ detv 4 (table_val r0 r1 r2 r3) ≤ 1572864 :=
  detv_bound 4 _ (table_in g0 g1 g2 g3)
theorem prod_bound {r0 r1 r2 r3 : Int} : 0 ≤ prod_val r0 r1 r2 r3 ∧ prod_val r0 r1 r2 r3 < 17 := by
  unfold prod_val
  simp only [List.foldl]
  omega
theorem back_c {r0 r1 r2 r3 : Int} (h : prod_val r0 r1 r2 r3 ≠ 0) {j : Nat} (hj : j < 4) : C17 (inv17 (atv r0 r1 r2 r3 (rootAt j)) * at_val r0 r1 r2 r3 (rootAt j)) 1 := by
  have hi := (inv_at (atv_pos h hj) atv_bound.2).2.1
  exact (C17.mul (C17.refl _) (C17.rest (at_val r0 r1 r2 r3 (rootAt j))).symm).trans (C17.of_emod hi)
theorem backs_eq {r0 r1 r2 r3 : Int} (k : Nat) (a b c : Int) (ha : (4 : Int) ^ (4 - k) = a) (hb : (16 : Int) ^ (4 - k) = b) (hc : (13 : Int) ^ (4 - k) = c) :
    C17 (backv r0 r1 r2 r3 k) (13 * (inv17 (atv r0 r1 r2 r3 (rootAt 0)) + a * inv17 (atv r0 r1 r2 r3 (rootAt 1)) + b * inv17 (atv r0 r1 r2 r3 (rootAt 2)) + c * inv17 (atv r0 r1 r2 r3 (rootAt 3)))) := by
  unfold backv
  refine (C17.rest _).trans (C17.of_eq ?_)
  have e : backs r0 r1 r2 r3 k = inv17 (atv r0 r1 r2 r3 (rootAt 0)) * 1 ^ (4 - k) + (inv17 (atv r0 r1 r2 r3 (rootAt 1)) * 4 ^ (4 - k) + (inv17 (atv r0 r1 r2 r3 (rootAt 2)) * 16 ^ (4 - k) + (inv17 (atv r0 r1 r2 r3 (rootAt 3)) * 13 ^ (4 - k) + 0))) := rfl
  rw [e, ha, hb, hc, Int.one_pow]
  grind
theorem plain_back {r0 r1 r2 r3 : Int} (h : prod_val r0 r1 r2 r3 ≠ 0) : round_val r0 r1 r2 r3 (backv r0 r1 r2 r3 0) (backv r0 r1 r2 r3 1) (backv r0 r1 r2 r3 2) (backv r0 r1 r2 r3 3) = [1, 0, 0, 0] :=
  back_lin (back_c h (j := 0) (by decide)) (back_c h (j := 1) (by decide)) (back_c h (j := 2) (by decide)) (back_c h (j := 3) (by decide))
    (backs_eq 0 256 65536 28561 (by decide) (by decide) (by decide)) (backs_eq 1 64 4096 2197 (by decide) (by decide) (by decide)) (backs_eq 2 16 256 169 (by decide) (by decide) (by decide)) (backs_eq 3 4 16 13 (by decide) (by decide) (by decide))
end Mine
end
section
open PySem PySem.W PySem.Spec PySem.Calls PyProof.Rows
set_option Elab.async false
set_option maxRecDepth 100000
namespace Mine
theorem by_len : typeLookup (.type "bytes") "__len__" = pure (some (.builtin "bytes.__len__")) := by rw [typeLookup_type, builtinLookup_eq_fast]; kernel_rfl
section
variable {prog : Program} {w : World} {A : Around} {E : Value → Shared → Prop} {s : Shared}
def ByteAt (b : Array UInt8) (i : Nat) (v : Value) : Prop := ∃ c u, b[i]? = some c ∧ v = .int (c.toNat : Int) u
theorem extendBytes {R : Result → Shared → Prop} (hh : A.handled = none) (b : Array UInt8) (t : Tok) (S : Addr) (res : Value) (c₀ : Nat) (hS : s.heap.get? S = some { cls := .type "list", data := .seq #[] c₀ })
    (hR : ∀ h' tk acc' c', (∀ b o, b ≠ S → s.heap.get? b = some o → h'.get? b = some o) → h'.get? S = some { cls := .type "list", dict := none, data := .seq acc' c', slots := #[] } →
      ItemsOf (ByteAt b) acc' b.size → R (.ok (.ret res)) { s with heap := h', toks := tk }) (hn : b.size ≤ sizeLine) :
    wpAny (model prog w) A.in1 (Builtin.List.listExtendWith (.ref S) (.bytes b t) res)
      (fun fin s' => match fin with | .done f => R (.ok f) s' | .again c' => c'.quiet = true ∧ codeAny (model prog w) A c' R s') (fun e s' => R (.error e) s') s := by
  have hSI : S ≠ s.heap.objs.size := Nat.ne_of_lt (Heap.lt_size hS)
  have hSf : S ∉ [s.heap.objs.size] := fun hm => hSI (List.mem_singleton.mp hm)
  unfold Builtin.List.listExtendWith
  refine wpAny_bind (wpAny_typeOf (T := "bytes") (v := .bytes b t) rfl ?_)
  have h1 : Builtin.List.listSameRef (.ref S) (.bytes b t) = false := rfl
  have h2 : (Value.type "bytes" == Value.type "list") = false := by decide
  have h3 : (Value.type "bytes" == Value.type "tuple") = false := by decide
  simp only [h1, h2, h3, Bool.or_false, Bool.false_eq_true, if_false]
  refine wpAny_bind (KBw.pyIter_bytes ?_)
  refine wpAny_bind (wpAny_holding ?_)
  unfold Builtin.List.listLengthHint
  refine wpAny_bind (wpAny_specialOf (T := "bytes") (v := .bytes b t) rfl by_len ?_)
  wp_delta
  refine wpAny_bind (wpAny_isInstance (T := "bytes") (v := .bytes b t) (b := true) rfl (by rw [isSubtype_type]; kernel_rfl) ?_)
  show wpAny _ _ (typeOf (Value.bytes b t) >>= _) _ _ _
  refine wpAny_bind (wpAny_typeOf (T := "bytes") (v := .bytes b t) rfl ?_)
  refine wpAny_pure ?_
  rw [if_neg (by decide)]
  have W := KBw.walks (prog := prog) (w := w) (A := A.in1) hh s.heap.objs.size b t
  refine wpAny_pure ⟨plainId_quiet F.plain_extend_loop _, codeAny_extend_loopS W.toS hn _ hSf _ b.size 0 _ _ _ rfl (Nat.zero_le _) ⟨_, Heap.get?_push_size _ rfl, rfl, rfl⟩ (Heap.get?_push_of_some _ hS) (ItemsOf.nil _) fun s' acc' c' hm hS' hacc => ?_⟩
  rw [Moved.eq_with hm]
  refine hR s'.heap s'.toks acc' c' (fun b ob hb e => hm.heap b ob (fun hmem => ?_) (Heap.get?_push_of_some _ e)) hS' hacc
  rcases List.mem_cons.mp hmem with e' | hmem
  · exact hb e'
  · exact absurd (Heap.lt_size e) (by rw [List.mem_singleton.mp hmem]; exact Nat.lt_irrefl _)
theorem initBytes {R : Result → Shared → Prop} (hh : A.handled = none) (b : Array UInt8) (t : Tok) (S : Addr) (hS : s.heap.get? S = some { cls := .type "list", data := .seq #[] })
    (hR : ∀ h' tk acc' c', (∀ b o, b ≠ S → s.heap.get? b = some o → h'.get? b = some o) → h'.get? S = some { cls := .type "list", dict := none, data := .seq acc' c', slots := #[] } →
      ItemsOf (ByteAt b) acc' b.size → R (.ok (.ret .none)) { s with heap := h', toks := tk }) (hn : b.size ≤ sizeLine) :
    wpAny (model prog w) A.in1 (Builtin.«list.__init__» ⟨[.ref S, .bytes b t], []⟩)
      (fun fin s' => match fin with | .done f => R (.ok f) s' | .again c' => c'.quiet = true ∧ codeAny (model prog w) A c' R s') (fun e s' => R (.error e) s') s := by
  show wpAny _ _ (do let old ← Builtin.List.listItems (.ref S); Builtin.List.listUpdate (.ref S) (fun _ => #[]); letGo old.toList.reverse; Builtin.List.listExtendWith (.ref S) (.bytes b t) .none) _ _ s
  refine wpAny_bind ?_
  unfold Builtin.List.listItems
  refine wpAny_bind (wpAny_seqItems hS rfl (wpAny_pure ?_))
  show wpAny _ _ (updateSeq S (fun _ => #[]) >>= fun _ => letGo (#[] : Array Value).toList.reverse >>= fun _ => Builtin.List.listExtendWith (.ref S) (.bytes b t) .none) _ _ s
  refine wpAny_bind (wpAny_updateSeq hS rfl ?_)
  have hS₂ := Heap.get?_update_self (Obj.mapSeq (fun _ => (#[] : Array Value))) hS rfl
  have oth : ∀ b o, b ≠ S → s.heap.get? b = some o → (s.heap.update S (Obj.mapSeq (fun _ => (#[] : Array Value)))).get? b = some o :=
    fun b o hb e => (Heap.get?_update_other _ _ (Ne.symm hb)).trans e
  refine wpAny_bind (wpAny_letGo ?_)
  refine extendBytes hh b t S .none _ hS₂ (fun h' tk acc' c' hk hS' hacc => ?_) hn
  exact hR h' tk acc' c' (fun b o hb e => hk b o hb (oth b o hb e)) hS' hacc
theorem listOfBytes {Q : Value → Shared → Prop} (hh : A.handled = none) (b : Array UInt8) (t : Tok)
    (hQ : ∀ h' tk acc' c', (∀ b o, s.heap.get? b = some o → h'.get? b = some o) →
      h'.get? s.heap.objs.size = some { cls := .type "list", dict := none, data := .seq acc' c', slots := #[] } → ItemsOf (ByteAt b) acc' b.size → Q (.ref s.heap.objs.size) { s with heap := h', toks := tk }) (hn : b.size ≤ sizeLine) :
    wpAny (model prog w) A (call (.type "list") [.bytes b t]) Q E s := by
  refine callType_codes (Q₁ := fun obj s₁ => obj = .ref s.heap.objs.size ∧ s₁ = { s with heap := s.heap.push { cls := .type "list", data := .seq #[] } }) F.called_list (F.typeCall_list_1 _) F.entry_list_init
    (code_list_new _ ⟨rfl, rfl⟩) fun obj s₁ h₁ => ?_
  obtain ⟨rfl, rfl⟩ := h₁
  have hS : (s.heap.push { cls := .type "list", data := .seq #[] }).get? s.heap.objs.size = some { cls := .type "list", data := .seq #[] } := Heap.get?_push_size _ rfl
  refine ⟨⟨_, hS, rfl⟩, F.args_list_init_2 _ _, initBytes (A := A.in1) hh b t _ hS (fun h' tk acc' c' hk hS' hacc => ?_) hn⟩
  exact ⟨rfl, hQ h' tk acc' c' (fun b o e => hk b o (Nat.ne_of_lt (Heap.lt_size e)) (Heap.get?_push_of_some _ e)) hS' hacc⟩
end
theorem ints_of_items {b : Array UInt8} : ∀ {l : List Value}, l.length = b.size → (∀ j v, l[j]? = some v → ByteAt b j v) → IntsAre l (KBw.bInts b) := by
  intro l hl h
  have gen : ∀ (l : List Value) (u : List UInt8), l.length = u.length → (∀ (j : Nat) (v : Value), l[j]? = some v → ∃ (c : UInt8) (t : Tok), u[j]? = some c ∧ v = Value.int (c.toNat : Int) t) → IntsAre l (u.map fun c => (c.toNat : Int)) := by
    intro l
    induction l with
    | nil => intro u hu _; cases u with
      | nil => exact .nil
      | cons _ _ => simp at hu
    | cons v l ih =>
      intro u hu hx
      cases u with
      | nil => simp at hu
      | cons c u =>
        obtain ⟨c', t, hc, rfl⟩ := hx 0 v rfl
        simp at hc
        subst hc
        exact .cons _ t (ih u (by simpa using hu) fun j v hj => by simpa using hx (j + 1) v (by simpa using hj))
  refine gen l b.toList (by rw [hl]; simp) fun j v hj => ?_
  obtain ⟨c, t, hc, hv⟩ := h j v hj
  exact ⟨c, t, by simpa using hc, hv⟩
section
variable {prog : Program} {w : World} {A : Around} {E : Value → Shared → Prop} {s : Shared} {h₀ : Heap} {L : Addr} {m : PySem.Str → Option Value} {news : List (Addr × Obj)}
theorem listOfBytesK {b : Array UInt8} {t : Tok} {ns : List Int} {Q : Value → Shared → Prop} (F : Fr h₀ L s.heap m) (N : News h₀ L s.heap news) (hh : A.handled = none) (hb : KBw.bInts b = ns) (hn : ns.length ≤ 1000)
    (h : ∀ D ws c h' tk, Fr h₀ L h' m → News h₀ L h' ((D, W.listOf (List.toArray ws) c) :: news) → (∀ p ∈ news, p.1 < D) → IntsAre ws ns → Q (.ref D) { s with heap := h', toks := tk }) :
    wpAny (model prog w) A (call (.type "list") [.bytes b t]) Q E s := by
  have hz : b.size ≤ sizeLine := by rw [← KBw.ints_length, hb]; exact Nat.le_trans hn (by decide)
  refine listOfBytes hh b t (fun h' tk acc' c' keep hS hacc => h _ acc'.toList c' h' tk (F.keeps keep) (fun p hp => ?_) (fun p hp => Heap.lt_size (N p hp).1) ?_) hz
  · rcases List.mem_cons.mp hp with rfl | hp
    · exact ⟨by rw [hS], Ne.symm (Nat.ne_of_lt F.ns.lt), next_is_new F⟩
    · exact ⟨keep _ _ (N p hp).1, (N p hp).2⟩
  · rw [← hb]
    exact ints_of_items (by rw [Array.length_toList]; exact hacc.1) fun j v hj => hacc.2 j v (by simpa using hj)
end
end Mine
end
section
open PySem PySem.W PySem.Spec PySem.Calls PyProof.Rows
open Sem (wp)
namespace Mine
/-- a code that holds no bytearray -/
def okCode : Code → Bool
  | .builtin id _ => !(["bytearray.__contains__", "bytearray.__mod__", "bytearray.__rmod__", "_struct.pack_into.held", "bytearray.find.held"].contains id || Builtin.Bytes.decodersThatHold.contains id)
  | _ => true
def Clean (l : List (Code × Pos)) : Prop := ∀ x ∈ l, okCode x.1 = true
theorem Clean.cons {c : Code} {p : Pos} {l : List (Code × Pos)} (h : okCode c = true) (hl : Clean l) : Clean ((c, p) :: l) := by
  intro x hx
  rcases List.mem_cons.mp hx with rfl | hx
  · exact h
  · exact hl x hx
def wpP {α : Type} (M : Model) (A : Around) (t : Sem α) (Q : α → Shared → Prop) (E : Value → Shared → Prop) (s : Shared) : Prop :=
  ∀ Γ p, Γ.In A → okCode Γ.code = true → Clean Γ.below → wp M Γ t (fun a _ s' => Q a s') (fun e _ s' => E e s') p s
def codeP (M : Model) (A : Around) (c : Code) (R : Result → Shared → Prop) (s : Shared) : Prop :=
  ∀ Γ p, Γ.code = c → Γ.Below A → Clean Γ.below → wpCode M Γ R p s
section
variable {α β : Type} {M : Model} {A : Around} {E : Value → Shared → Prop} {s : Shared}
theorem wpP.of {t : Sem α} {Q : α → Shared → Prop} (h : wpAny M A t Q E s) : wpP M A t Q E s := fun Γ p hΓ _ _ => h Γ p hΓ
theorem codeP.of {c : Code} {R : Result → Shared → Prop} (h : codeAny M A c R s) : codeP M A c R s := fun Γ p hc hΓ _ => h Γ p hc hΓ
theorem wpP_mono {t : Sem α} {Q Q' : α → Shared → Prop} {E' : Value → Shared → Prop} (h : wpP M A t Q E s) (hQ : ∀ a s, Q a s → Q' a s) (hE : ∀ e s, E e s → E' e s) : wpP M A t Q' E' s :=
  fun Γ p hΓ ho hl => Sem.wp_mono M Γ t (fun a _ s => hQ a s) (fun e _ s => hE e s) p s (h Γ p hΓ ho hl)
theorem wpP_bind {m : Sem α} {f : α → Sem β} {Q : β → Shared → Prop} (h : wpP M A m (fun a s' => wpP M A (f a) Q E s') E s) : wpP M A (m >>= f) Q E s := fun Γ p hΓ ho hl => by
  rw [Sem.wp_bind']
  exact Sem.wp_mono M Γ m (fun a p' s' h' => h' Γ p' hΓ ho hl) (fun _ _ _ h' => h') p s (h Γ p hΓ ho hl)
/-- a first part that any context bears -/
theorem wpP_bindAny {m : Sem α} {f : α → Sem β} {Q : β → Shared → Prop} (h : wpAny M A m (fun a s' => wpP M A (f a) Q E s') E s) : wpP M A (m >>= f) Q E s := wpP_bind (wpP.of h)
theorem wpP_pure {a : α} {Q : α → Shared → Prop} (h : Q a s) : wpP M A (pure a) Q E s := fun _ _ _ _ _ => h
theorem wpP_runValue {c : Code} {Q : Value → Shared → Prop}
    (hc : codeP M A c (fun r s' => match r with | .ok (.ret v) => Q v s' | .ok _ => False | .error e => E e s') s) : wpP M A (runValue c) Q E s := fun Γ p hΓ ho hl => by
  rw [Sem.wp_runValue]
  exact hc _ p rfl (hΓ.enter c none p (by intro x; cases x)) (Clean.cons ho hl)
theorem wpP_call {f : Value} {pos : List Value} {kw : List (PySem.Str × Value)} {Q : Value → Shared → Prop}
    (hc : codeP M A (.call f ⟨pos, kw⟩) (fun r s' => match r with | .ok (.ret v) => Q v s' | .ok _ => False | .error e => E e s') s) : wpP M A (call f pos kw) Q E s := wpP_runValue hc
theorem wpP_onRaise {m : Sem α} {k : Value → Sem Unit} {Q : α → Shared → Prop}
    (h : wpP M A m Q (fun e s' => wpP M A (k e) (fun _ s'' => E e s'') E s') s) : wpP M A (m.onRaise k) Q E s := fun Γ p hΓ ho hl => by
  rw [Sem.wp_onRaise]
  exact Sem.wp_mono M Γ m (fun _ _ _ h' => h') (fun e p' s' h' => h' Γ p' hΓ ho hl) p s (h Γ p hΓ ho hl)
theorem codeP_tree {c : Code} {R : Result → Shared → Prop} (ho : okCode c = true)
    (h : wpP M (A.under c) (M.den c) (fun fin s' => match fin with | .done f => R (.ok f) s' | .again c' => c'.quiet = true ∧ codeP M A c' R s')
      (fun e s' => R (.error e) s') s) : codeP M A c R s := fun Γ p hc hΓ hl => by
  rw [wpCode_iff_wp, hc]
  refine Sem.wp_mono M Γ _ (fun fin p' s' h' => ?_) (fun _ _ _ h' => h') p s (h Γ p (hc ▸ hΓ.in) (hc ▸ ho) hl)
  cases fin with
  | done f => exact h'
  | again c' => exact ⟨h'.1, h'.2 (Γ.goto c') p' rfl (hΓ.goto c') hl⟩
/-- the stack asked whether it holds a bytearray says no -/
theorem wpP_exported {v : Value} {Q : Bool → Shared → Prop} (h : Q false s) : wpP M A (Builtin.Bytes.exported v) Q E s := fun Γ p hΓ ho hl => by
  have hst : Clean ((Γ.code, p) :: Γ.below) := Clean.cons ho hl
  show Q (((Γ.code, p) :: Γ.below).any _) s
  rw [List.any_eq_false.mpr]
  · exact h
  · intro x hx
    have hk := hst x hx
    clear hx hst
    obtain ⟨c, q⟩ := x
    cases c with
    | builtin id args =>
      obtain ⟨pos, kw⟩ := args
      simp only [okCode, Bool.not_eq_true', Bool.or_eq_false_iff, List.contains_cons, List.contains_nil, beq_eq_false_iff_ne] at hk
      obtain ⟨⟨h1, h2, h3, h4, h5, _⟩, h6⟩ := hk
      delta Builtin.Bytes.exported.match_1 Builtin.Bytes.exported._sparseCasesOn_1
      dsimp only
      rw [dif_neg h1, dif_neg h2, dif_neg h3, dif_neg h4, dif_neg h5]
      cases pos with
      | nil => exact Bool.false_ne_true
      | cons a r =>
        show ¬ (Builtin.Bytes.sameRef a v && Builtin.Bytes.decodersThatHold.contains id) = true
        rw [h6, Bool.and_false]
        exact Bool.false_ne_true
    | _ => exact Bool.false_ne_true

end
section
variable {prog : Program} {w : World} {A : Around} {E : Value → Shared → Prop} {s : Shared} {R : Result → Shared → Prop}
theorem codeP_body {stmts : List Stmt} {env : Env} (hann : hasAnns stmts = false) (hdoc : docOf stmts = none)
    (h : wpP (model prog w) (A.deeper env) (execs stmts env) (fun f s' => R (.ok f) s')
      (fun e s' => wpAny (model prog w) (A.deeper env) (leaving env e) (fun _ s'' => R (.error e) s'') (fun e' s'' => R (.error e') s'') s') s) : codeP (model prog w) A (.body stmts env) R s := by
  refine codeP_tree rfl ?_
  show wpP _ (A.deeper env) (do blockStart stmts env; return Fin.done (← (execs stmts env).onRaise (leaving env))) _ _ s
  have hb : blockStart stmts env = pure () := by
    unfold blockStart
    rw [hann, hdoc]
    cases interactive env <;> rfl
  rw [hb]
  exact wpP_bind (wpP_pure (wpP_bind (wpP_onRaise (wpP_mono h (fun f s' h' => wpP_pure h') fun _ _ h' => wpP.of h'))))
theorem codeP_func {body : List Stmt} {env : Env}
    (h : wpP (model prog w) (A.deeper env) (execs body env) (fun f s' => R (.ok (.ret (match f with | .ret v => v | _ => .none))) s')
      (fun e s' => wpAny (model prog w) (A.deeper env) (leaving env e) (fun _ s'' => R (.error e) s'') (fun e' s'' => R (.error e') s'') s') s) : codeP (model prog w) A (.func body env) R s := by
  refine codeP_tree rfl ?_
  show wpP _ (A.deeper env) (do point; match ← (execs body env).onRaise (leaving env) with | .ret v => ret v | _ => ret .none) _ _ s
  refine wpP_bindAny (wpAny_point (wpP_bind (wpP_onRaise (wpP_mono h (fun f s' h' => ?_) fun _ _ h' => wpP.of h'))))
  cases f <;> exact wpP_pure h'
theorem codeP_function {a : Addr} {args : Args} {o : Obj} {fd : FuncData} {body : List Stmt} (hroom : A.depth < recursionLimit) (ho : s.heap.get? a = some o)
    (hd' : o.data = .func fd) (hco : fd.scope.isCoroutine = false) (hgen : fd.scope.isGenerator = false) (hbody : fd.body = .stmts body) (hcd : s.heap.CodeRec fd.code fd.qualname)
    (h : wpAny (model prog w) A.in1 (bindArgs fd args) (fun binds s₁ =>
      wpAny (model prog w) A.in1 (newFunctionEnv fd.scope fd.globals fd.closure binds (fd.qualname ++ ".<locals>.") (some a) fd.code none fd.builtins)
        (fun env s₂ => s₂.heap.NoLimit ∧ codeP (model prog w) A (.func body env) R s₂) (fun e s' => R (.error e) s') s₁) (fun e s' => R (.error e) s') s) :
    codeP (model prog w) A (.call (.ref a) args) R s := by
  refine codeP_tree rfl ?_
  show wpP _ A.in1 (callAny (.ref a) args) _ _ s
  simp only [callAny]
  refine wpP_bindAny (wpAny_load ho ?_)
  obtain ⟨c, oc, vs, tq, hc, hoc, hdc, hq⟩ := hcd
  simp only [hd', callFunction, hco, hgen, hbody, hc]
  rw [hc] at h
  refine wpP_bindAny (m := field (.ref c) 1) (wpAny_field hoc hdc hq ?_)
  refine wpP_bind (wpP_pure ?_)
  refine wpP_bindAny (wpAny_mono h (fun binds s₁ h₁ => wpP_bindAny (wpAny_mono h₁ (fun env s₂ h₂ => wpP_bindAny (wpAny_enterFrame h₂.1 hroom (wpP_pure (And.intro rfl h₂.2)))) fun _ _ h' => h')) fun _ _ h' => h')
end
section
variable {prog : Program} {w : World} {A₀ A : Around} {s : Shared} {base h₀ : Heap} {outer : List Env} {L : Addr} {m : PySem.Str → Option Value} {env : Env} {news : List (Addr × Obj)} {K : Frag} {p : Program} {loose : List PySem.Str} {mean : ExcName → Option Value} {mg mb : PySem.Str → Option Value}
  {R : Result → Shared → Prop} {name qual : PySem.Str} {params : Arguments} {body : List Stmt} {scope : Scope} {dV kV doc pm cdv ct oc : Value} {an od : Option Addr} {osl : Array (Option Value)} {f : Addr} {args : Args} {binds : List (PySem.Str × Value)}
/-- into a def without cells, the stack known to be clean -/
theorem codeP_def (B : Below A₀ base outer h₀) (F : Fr h₀ L s.heap m) (X₀ : K.In h₀) (N : News h₀ L s.heap news) (T : Top p loose mean mg mb h₀) (hA : A.frames = some (env :: outer)) (hf : env.frame = some L) (hke : env.scope.kind = .function)
    (ho : K.lookup f = some ⟨oc, od, .func (fnOf name qual params body scope dV kV doc pm an cdv ct), osl⟩) (hcd : codeIn K cdv qual = true) (hroom : A.depth < recursionLimit)
    (hbind : BindsTo s (fnOf name qual params body scope dV kV doc pm an cdv ct) args binds) (hloc : ∀ y ∈ binds, scope.names.lookup y.1 = some .local)
    (h : ∀ g L' h₁, Fr h₀ L g m → Fr g L' h₁ (fun y => binds.reverse.lookup y) → News g L' h₁ news → Below A base (env :: outer) g → K.In g → Top p loose mean mg mb g →
      wpP (model prog w) (A.deeper (envOf qual scope L' f cdv)) (execs body (envOf qual scope L' f cdv))
        (fun fl s' => LeaveK h₀ L m g R (match fl with | .ret v => v | _ => .none) s')
        (fun e s' => wpAny (model prog w) (A.deeper (envOf qual scope L' f cdv)) (leaving (envOf qual scope L' f cdv) e) (fun _ s'' => R (.error e) s'') (fun e' s'' => R (.error e') s'') s')
        { s with heap := h₁, toks := s.toks + binds.length })
    (hco : scope.isCoroutine = false) (hgen : scope.isGenerator = false) (hk : scope.kind = .function)
    (hcell : ∀ x ∈ scope.names, x.2 ≠ .cell) : codeP (model prog w) A (.call (.ref f) args) R s := by
  have X := X₀.keeps F.keep
  obtain ⟨FG, BG, st, lv⟩ := groundX (R := R) B F N hA hf hke
  refine codeP_function (fd := fnOf name qual params body scope dV kV doc pm an cdv ct) (body := body) hroom (X _ _ ho) rfl hco hgen rfl (codeRec_of X hcd) (hbind _ _ _ _ ?_)
  refine wpAny_newFunctionEnv hcell hloc (fun h₁ hns hsb => ⟨(T.nolimit.keeps F.keep).fresh _ hsb, codeP_func ?_⟩) hk
  have hk₁ : ∀ b o, s.heap.get? b = some o → h₁.get? b = some o := fun b o e => hsb.extBut b o (Nat.ne_of_lt (Heap.lt_size e)) (Heap.get?_push_of_some _ e)
  exact wpP_mono (h _ s.heap.objs.size h₁ FG ⟨hns, fun b o e => hk₁ b o (of_hideAll _ e), Nat.le_of_eq (hideAll_size _ _)⟩
    (fun p hp => ⟨hk₁ _ _ (N p hp).1, Nat.ne_of_lt (Heap.lt_size (N p hp).1), hideAll_none _ (List.mem_map_of_mem hp)⟩) BG (X₀.keeps st) (T.keeps st)) (fun fl s' hl => lv _ _ hl) fun _ _ y => y
end
section
variable {M : Model} {A : Around} {E : Value → Shared → Prop} {s : Shared} {env : Env}
theorem wpP_cons {st : Stmt} {rest : List Stmt} {Q : Flow → Shared → Prop}
    (h : wpP M A (exec st env) (fun f s' => match f with | .next => wpP M A (execs rest env) Q E s' | f => Q f s') E s) : wpP M A (execs (st :: rest) env) Q E s := by
  rw [execs_cons]
  refine wpP_bind (wpP_mono h (fun f s' h' => ?_) fun _ _ x => x)
  cases f <;> first | exact h' | exact wpP_pure h'
theorem wpP_consAny {st : Stmt} {rest : List Stmt} {Q : Flow → Shared → Prop}
    (h : wpAny M A (exec st env) (fun f s' => match f with | .next => wpP M A (execs rest env) Q E s' | f => Q f s') E s) : wpP M A (execs (st :: rest) env) Q E s := wpP_cons (wpP.of h)
end
section
variable {M : Model} {A : Around} {E : Value → Shared → Prop} {s : Shared} {env : Env}
theorem wpP_keep {α : Type} {vs : List Value} {m : Sem α} {Q : α → Shared → Prop} (h : wpP M A m Q E s) : wpP M A (m.keep vs) Q E s := fun Γ p hΓ ho hl => by
  rw [Sem.wp_keep]; exact h Γ p hΓ ho hl
theorem wpP_tail {t : Sem Value} {Q : Value → Shared → Prop} (ht : wpP M A t Q E s) : wpP M A (t >>= fun r => holding [r] point >>= fun _ => pure r) Q E s :=
  wpP_bind (wpP_mono ht (fun _ _ hr => wpP.of (wpAny_bind (wpAny_holding (wpAny_point (wpAny_pure hr))))) fun _ _ x => x)
theorem wpP_callFn {pos : Pos} {a : Addr} {o : Obj} {fd : FuncData} {args : List (Bool × Sem Value)} {Q : Value → Shared → Prop} (hs : args.any (·.1) = false) (hn : args.length ≤ 30)
    (h : wpAny M A (evalArgs (.ref a) true args []) (fun x s₁ => (s₁.heap.get? a = some o ∧ o.data = .func fd) ∧ wpP M A (call (.ref a) x.pos x.kw) Q E s₁) E s) :
    wpP M A (callWith pos (.ref a) [] args []) Q E s := by
  unfold callWith
  refine wpP_bindAny (wpAny_holding (wpAny_mono h (fun x s₁ h₁ => wpP_bindAny (wpAny_standAt ?_)) fun _ _ x => x))
  refine wpP_bindAny (m := keeperOf (.ref a)) ?_
  unfold keeperOf
  refine wpAny_bind (wpAny_load h₁.1.1 ?_)
  rw [h₁.1.2]
  refine wpAny_pure ?_
  rw [hs]
  dsimp only [List.any_nil, Bool.or_self]
  rw [if_neg (by simp only [List.length_nil]; omega)]
  exact wpP_tail (by unfold callMarked; exact wpP_keep h₁.2)
end
section
variable {M : Model} {A : Around} {E : Value → Shared → Prop} {s : Shared} {env : Env}
theorem wpP_Assign {x : PySem.Str} {pos' : Pos} {value : Expr} {pos : Pos} {Q : Flow → Shared → Prop}
    (h : wpP M A (eval value env) (fun v s' => wpAny M A (storeName env x v) (fun _ => Q .next) E s') E s)
    (hs : swapsWith value (some (.Name x pos')) pos.line env = pure false := by rfl) : wpP M A (exec (.Assign [.Name x pos'] value pos) env) Q E s := fun Γ p hΓ ho hl => by
  simp only [exec_Assign_Name env x pos' value pos hs, Sem.wp_bind', Sem.wp_cmd_standAt, Sem.wp_bindName, Sem.wp_pure']
  exact Sem.wp_mono M Γ _ (fun v p₁ s₁ h₁ => h₁ Γ _ hΓ) (fun _ _ _ h' => h') _ _ (h Γ _ hΓ ho hl)
end
section
variable {M : Model} {A : Around} {E : Value → Shared → Prop} {s : Shared} {env : Env}
theorem wpP_If {test : Expr} {body orelse : List Stmt} {pos : Pos} {Q : Flow → Shared → Prop}
    (h : wpP M A (isTrue test env (eval test env)) (fun b s₂ => if b then wpAny M A (execs body env) Q E s₂ else wpAny M A (execs orelse env) Q E s₂) E s) : wpP M A (exec (.If test body orelse pos) env) Q E s := fun Γ p hΓ ho hl => by
  simp only [exec_If, Sem.wp_bind', Sem.wp_cmd_standAt]
  refine Sem.wp_mono M Γ _ (fun b p₂ s₂ h₂ => ?_) (fun _ _ _ h' => h') _ _ (h Γ _ hΓ ho hl)
  cases b <;> exact h₂ Γ p₂ hΓ
theorem wpP_or {x y : Expr} {pos : Pos} {whole : Sem Value} {Q : Bool → Shared → Prop}
    (h : wpAny M A (isTrue x env (eval x env)) (fun c s' => if c then Q true s' else wpP M A (isTrue y env (eval y env)) Q E s') E s) : wpP M A (isTrue (.BoolOp .Or [x, y] pos) env whole) Q E s := by
  show wpP M A (allTrue .Or [x, y] env) Q E s
  unfold allTrue
  refine wpP_bindAny (wpAny_mono h (fun c s' h' => ?_) fun _ _ e => e)
  cases c with
  | true => exact wpP_pure h'
  | false =>
    unfold allTrue
    refine wpP_bind (wpP_mono h' (fun c s'' h'' => ?_) fun _ _ e => e)
    cases c with
    | true => exact wpP_pure h''
    | false => exact wpP_pure h''
theorem wpP_isCompare {l r : Expr} {op : CmpOp} {pos : Pos} {whole : Sem Value} {Q : Bool → Shared → Prop}
    (h : wpP M A (eval l env) (fun a s₁ => wpAny M A (eval r env) (fun b s₂ => wpAny M A (compareOp op a b) (fun c s₃ => wpAny M A (truthy c) Q E s₃) E s₂) E s₁) E s)
    (hm : behindInMarks op r = false := by with_unfolding_all rfl) : wpP M A (isTrue (.Compare l [op] [r] pos) env whole) Q E s := fun Γ p hΓ ho hl => by
  simp only [isTrue_Compare1, markedBehindIn_of_false hm, Sem.wp_bind', Sem.wp_holding, Sem.wp_cmd_standAt, Sem.wp_operate]
  exact Sem.wp_mono M Γ _ (fun a p₁ s₁ h₁ => Sem.wp_mono M Γ _ (fun b p₂ s₂ h₂ => Sem.wp_mono M Γ _ (fun c p₃ s₃ h₃ => h₃ Γ _ hΓ) (fun _ _ _ h' => h') _ _ (h₂ Γ _ hΓ)) (fun _ _ _ h' => h') _ _ (h₁ Γ p₁ hΓ))
    (fun _ _ _ h' => h') _ _ (h Γ p hΓ ho hl)
theorem wpP_callName {x : PySem.Str} {p₀ pos : Pos} {args : List Expr} {Q : Value → Shared → Prop}
    (h : wpAny M A (eval (.Name x p₀) env) (fun f s₁ => wpP M A (callWith pos f [] (backTo pos (starEach args env)) (backToKw pos (keywordEach [] env))) Q E s₁) E s) :
    wpP M A (eval (.Call (.Name x p₀) args [] pos) env) Q E s := by
  rw [arm_eval_Call_Name']
  exact wpP_bindAny h
theorem wpP_callTy {pos : Pos} {T : String} {args : List (Bool × Sem Value)} {Q : Value → Shared → Prop} (hs : args.any (·.1) = false)
    (h : wpAny M A (evalArgs (.type T) true args []) (fun x s₁ => wpP M A (call (.type T) x.pos x.kw) Q E s₁) E s) : wpP M A (callWith pos (.type T) [] args []) Q E s := by
  unfold callWith
  refine wpP_bindAny (wpAny_holding (wpAny_mono h (fun x s₁ h₁ => wpP_bindAny (wpAny_standAt ?_)) fun _ _ x => x))
  refine wpP_bind (m := keeperOf (.type T)) (wpP_pure ?_)
  rw [hs]
  exact wpP_tail h₁
end
end Mine
end
section
open PySem PySem.W PySem.Spec PySem.Calls PyProof.Rows
open Sem (wp)
namespace Mine
theorem ba_mro : mroOf (.type "bytearray") = pure [.type "bytearray", .type "object"] := by rw [mroOf_type]; kernel_rfl
theorem ba_lookup_new : typeLookup (.type "bytearray") "__new__" = pure (some (.builtin "bytearray.__new__")) := by rw [typeLookup_type, builtinLookup_eq_fast]; kernel_rfl
theorem ba_slot_init : Slot "bytearray" "__init__" "bytearray.__init__" :=
  .of (owner := "bytearray") (n := "__init__") (by rw [typeLookup_type, builtinLookup_eq_fast]; kernel_rfl) (by decide +kernel) (by decide +kernel) (by decide +kernel)
    (by first | exact .inl (by decide +kernel) | exact .inr (by decide +kernel)) (by rw [isSubtype_type]; kernel_rfl)
theorem ba_called : TypeCalled "bytearray" "bytearray.__new__" "bytearray.__init__" :=
  ⟨by decide +kernel, by decide +kernel, ⟨_, _, ba_mro⟩, madeBy_type ba_mro ba_lookup_new (by decide +kernel), by decide +kernel, by rw [isSubtype_type]; kernel_rfl, ba_slot_init⟩
theorem ba_typeCall (a : Value) : checkTypeCall "bytearray" ⟨[a], []⟩ = pure () := by kernel_rfl
theorem ba_newCall (a : Value) : checkBuiltinCall "bytearray.__new__" ⟨[.type "bytearray", a], []⟩ = pure () := by kernel_rfl
theorem ba_plain : plainId "bytearray.__new__" = true := by decide +kernel
theorem ba_plain_init : plainId "bytearray.__init__" = true := by decide +kernel
theorem ba_entry_init : entryFor table "bytearray.__init__" = some Builtin.«bytearray.__init__» := by first | exact entryFor_of_fast (by kernel_rfl) | exact entryFor_of_tree (by kernel_rfl)
end Mine
end
section
open PySem PySem.W PySem.Spec PySem.Calls PyProof.Rows
open Sem (wp)
namespace Mine
theorem ba_entry_new : entryFor table "bytearray.__new__" = some Builtin.«list.__new__» :=
  entryFor_alias (id' := "list.__new__") (by rw [fastTable_eq_tree]; kernel_rfl) (by first | rfl | decide +kernel) (by decide +kernel) (by rw [fastTable_eq_tree]; kernel_rfl)
set_option maxRecDepth 1000000 in
set_option maxHeartbeats 4000000 in
theorem ba_owner_new : ("bytearray.__new__".splitOn ".__new__").headD "" = "bytearray" := by simp +decide [String.splitOn, String.splitOnAux]
theorem ba_sub : isSubtype (.type "bytearray") (.type "bytearray") = pure true := by rw [isSubtype_type]; kernel_rfl
section
variable {prog : Program} {w : World} {A : Around} {E : Value → Shared → Prop} {s : Shared}
set_option maxRecDepth 100000 in
theorem code_ba_new (a : Value) {Q₁ : Value → Shared → Prop}
    (h : Q₁ (.ref s.heap.objs.size) { s with heap := s.heap.push { cls := .type "bytearray", data := .bytearray #[] } }) :
    codeAny (model prog w) A (.call (.builtin "bytearray.__new__") ⟨[.type "bytearray", a], []⟩) (wants Q₁ E) s := by
  refine codeAny_of_tree ?_
  show wpAny _ A.in1 (do checkBuiltinCall "bytearray.__new__" ⟨[.type "bytearray", a], []⟩; again (.builtin "bytearray.__new__" ⟨[.type "bytearray", a], []⟩)) _ _ s
  refine wpAny_bind (wpAny_of_eq (ba_newCall a) (wpAny_pure ⟨plainId_quiet ba_plain _, codeAny_builtin_stack ba_entry_new rfl fun p st => ?_⟩))
  rw [Around.under_plainId ba_plain _]
  have hsub := ba_sub
  have hown := ba_owner_new
  obtain ⟨hp, g, d, tk, os⟩ := s
  simp only [hown]
  wp_walk
  exact h

theorem okCode_of {id : String} {args : Args} (h : (["bytearray.__contains__", "bytearray.__mod__", "bytearray.__rmod__", "_struct.pack_into.held", "bytearray.find.held"].contains id || Builtin.Bytes.decodersThatHold.contains id) = false) : okCode (.builtin id args) = true := by
  simp only [okCode, h, Bool.not_false]
theorem codeP_builtin {id : String} {args : Args} {b : Builtin} {R : Result → Shared → Prop} (ho : okCode (.builtin id args) = true) (hb : entryFor table id = some b)
    (h : wpP (model prog w) (A.under (.builtin id args)) (b args)
      (fun fin s' => match fin with | .done f => R (.ok f) s' | .again c' => c'.quiet = true ∧ codeP (model prog w) A c' R s') (fun e s' => R (.error e) s') s) :
    codeP (model prog w) A (.builtin id args) R s := by
  refine codeP_tree ho ?_
  show wpP _ _ (match entryFor table id with | some b => b args | none => unsupported ((withoutEnding? id "#data").getD id)) _ _ s
  rw [hb]; exact h
theorem wpP_holding {α : Type} {M : Model} {vs : List Value} {m : Sem α} {Q : α → Shared → Prop} (h : wpP M A m Q E s) : wpP M A (holding vs m) Q E s := fun Γ p hΓ ho hl => by
  rw [Sem.wp_holding]; exact h Γ p hΓ ho hl
theorem wpP_eq {α : Type} {M : Model} {m : Sem α} {a : α} {Q : α → Shared → Prop} (e : m = pure a) (h : Q a s) : wpP M A m Q E s := by rw [e]; exact wpP_pure h
set_option maxRecDepth 100000 in
theorem wpP_callBa {a : Value} {Q : Value → Shared → Prop}
    (h : ∀ s₁, s₁ = { s with heap := s.heap.push { cls := .type "bytearray", data := .bytearray #[] } } →
      wpP (model prog w) A.in1.in1 (Builtin.«bytearray.__init__» ⟨[.ref s.heap.objs.size, a], []⟩)
        (fun fin s' => match fin with | .done f => f = .ret .none ∧ Q (.ref s.heap.objs.size) s' | .again _ => False)
        E s₁) :
    wpP (model prog w) A (call (.type "bytearray") [a] []) Q E s := by
  have ft := ba_called
  obtain ⟨c, tl, hmro⟩ := ft.mro
  have hmade := ft.made
  have hsub := ft.sub
  have h1 := ft.notType
  have h2 := ft.canCreate
  have hct := ba_typeCall a
  refine wpP_call (codeP_tree rfl ?_)
  show wpP _ _ (callAny (.type "bytearray") _) _ _ _
  refine wpP_pure ⟨Code.quiet_builtin _ (by decide +kernel), codeP_builtin (okCode_of (by decide +kernel)) F.entry_type_call ?_⟩
  rw [Around.under_plain (weight_type_call_type "bytearray" [a] []) rfl]
  unfold Builtin.«type.__call__»
  simp only [h1, h2, hct, hmro, hmade, pure_bind, Bool.false_eq_true, if_false, List.isEmpty_cons]
  refine wpP_bindAny (wpAny_holding (wpAny_call (codeAny_mono (code_ba_new (E := E) a (Q₁ := fun obj s₁ => obj = .ref s.heap.objs.size ∧ s₁ = { s with heap := s.heap.push { cls := .type "bytearray", data := .bytearray #[] } }) ⟨rfl, rfl⟩) fun r s₁ hr => ?_)))
  rcases r with _ | fl
  · exact hr
  · rcases fl with _ | _ | _ | obj
    · exact hr.elim
    · exact hr.elim
    · exact hr.elim
    obtain ⟨rfl, hs₁⟩ := hr
    have hT : s₁.TypeIs (.ref s.heap.objs.size) "bytearray" := by subst hs₁; exact ⟨_, Heap.get?_push_size _ rfl, rfl⟩
    refine wpP_bindAny (wpAny_isInstance hT hsub ?_)
    rw [if_neg (by decide)]
    refine wpP_bind (wpP_holding ?_)
    unfold callSpecial?
    refine wpP_bindAny (wpAny_specialOf hT ft.init.lookup ?_)
    dsimp only
    refine wpP_holding ?_
    rw [ft.init.bind]
    refine wpP_bind (wpP_pure ?_)
    refine wpP_bind (wpP_call (codeP_tree rfl ?_))
    show wpP _ A.in1.in1 (do checkBuiltinCall "bytearray.__init__" _; again (.builtin "bytearray.__init__" _)) _ _ _
    refine wpP_bindAny (ft.init.check _ _ _ _ _ _ _ _ hT rfl ?_)
    refine wpP_pure ⟨plainId_quiet ba_plain_init _, codeP_builtin (okCode_of (by decide +kernel)) ba_entry_init ?_⟩
    rw [Around.under_plainId ba_plain_init]
    refine wpP_mono (h s₁ hs₁) (fun fin s₂ h₂ => ?_) fun _ _ x => x
    rcases fin with f | c
    · obtain ⟨rfl, hq⟩ := h₂
      refine wpP_pure (wpP_pure ?_)
      exact hq
    · exact h₂.elim
end
end Mine
end
section
open PySem PySem.W PySem.Spec PySem.Calls PyProof.Rows
open Sem (wp)
namespace Mine
theorem ba_release : typeLookup (.type "bytearray") "__release_buffer__" = pure (some (.builtin "bytearray.__release_buffer__")) := by rw [typeLookup_type, builtinLookup_eq_fast]; kernel_rfl
theorem int_index : typeLookup (.type "int") "__index__" = pure (some (.builtin "int.__index__")) := by rw [typeLookup_type, builtinLookup_eq_fast]; kernel_rfl
theorem ba_bind (v : Value) : Builtin.Bytes.bindOptional "bytearray.__init__" "bytearray" ["source", "encoding", "errors"] [v] [] = pure [some v, none, none] := by kernel_rfl
theorem ba_codec (a b c : String) : Builtin.Bytes.checkCodecArg a b c none = pure () := rfl
theorem ba_release_end : "bytearray.__release_buffer__".endsWith ("." ++ "__release_buffer__") = true := by decide +kernel
theorem ba_release_owner : "bytearray.__release_buffer__".dropRight ("__release_buffer__".length + 1) = "bytearray" := by decide +kernel
section
variable {prog : Program} {w : World} {A : Around} {E : Value → Shared → Prop} {s : Shared}
/-- a bytearray as an object of the heap -/
abbrev baObj (b : Array UInt8) : Obj := { cls := .type "bytearray", data := .bytearray b }
theorem ba_ownRelease {M : Model} {x : Addr} {o : Obj} {Q : Bool → Shared → Prop} (hx : s.heap.get? x = some o) (hc : o.cls = .type "bytearray") (h : Q false s) : wpAny M A (Builtin.Bytes.ownRelease (.ref x)) Q E s := by
  have hT : s.TypeIs (.ref x) "bytearray" := ⟨_, hx, hc⟩
  unfold Builtin.Bytes.ownRelease Builtin.Bytes.slotIsOwn
  refine wpAny_bind (wpAny_bind (wpAny_specialOf hT ba_release ?_))
  dsimp only
  rw [ba_release_end, ba_release_owner]
  refine wpAny_isInstance hT ba_sub ?_
  exact wpAny_pure h
theorem ba_write {M : Model} {x : Addr} {b : Array UInt8} {f : Array UInt8 → Array UInt8} {Q : Unit → Shared → Prop} (hx : s.heap.get? x = some (baObj b)) (hz : (f b).size ≤ sizeLine)
    (h : Q () { s with heap := s.heap.update x (Obj.mapBytearray f) }) : wpAny M A (Builtin.Bytes.write (.ref x) f) Q E s := by
  show wpAny M A (updateBytearray x f) Q E s
  unfold updateBytearray
  refine wpAny_bind (wpAny_load hx ?_)
  refine wpAny_bind (wpAny_update hx ?_)
  have h2 : (s.heap.update x (Obj.mapBytearray f)).get? x = some (baObj (f b)) := Heap.get?_update_self (Obj.mapBytearray f) hx rfl
  unfold lookBehind
  refine wpAny_bind (wpAny_loadPart h2 ?_)
  simp only [Data.pastItsLine]
  rw [if_neg (Nat.not_lt.mpr hz)]
  exact wpAny_pure h
set_option maxRecDepth 100000 in
theorem baInit {n : Int} {t : Tok} {x : Addr} {Q : Fin → Shared → Prop} (hx : s.heap.get? x = some (baObj #[])) (h0 : 0 < n) (h1 : n ≤ 1000)
    (h : ∀ h', h' = (s.heap.update x (Obj.mapBytearray fun _ => #[])).update x (Obj.mapBytearray fun _ => Array.replicate n.toNat 0) → Q (.done (.ret .none)) { s with heap := h' }) :
    wpP (model prog w) A (Builtin.«bytearray.__init__» ⟨[.ref x, .int n t], []⟩) Q E s := by
  unfold Builtin.«bytearray.__init__»
  refine wpP_bindAny (ba_ownRelease hx rfl ?_)
  rw [if_neg (by decide)]
  rw [ba_bind]
  refine wpP_bind (wpP_pure ?_)
  refine wpP_bind (wpP_pure (a := ()) ?_)
  refine wpP_bind (wpP_pure (a := ()) ?_)
  refine wpP_bind ?_
  unfold orM
  refine wpP_bind (wpP_exported ?_)
  refine wpP.of ?_
  show wpAny _ _ (do let l ← Builtin.Bytes.exportsOf (Value.ref x); pure (decide (l > 0))) _ _ _
  unfold Builtin.Bytes.exportsOf
  refine wpAny_bind (wpAny_bind (wpAny_load hx ?_))
  refine wpAny_pure (wpAny_pure ?_)
  dsimp only
  rw [if_neg (by decide)]
  refine wpP_bindAny (ba_write hx (by decide) ?_)
  refine wpP.of ?_
  refine wpAny_bind (wpAny_pure ?_)
  rw [if_neg (by decide)]
  rw [if_neg (by decide)]
  rw [if_neg (by decide)]
  refine wpAny_bind (wpAny_pure ?_)
  refine wpAny_bind (wpAny_specialOf (T := "int") (show Shared.TypeIs _ (.int n t) "int" from rfl) int_index ?_)
  rw [if_pos (by decide)]
  refine wpAny_bind (wpAny_attempt ?_)
  unfold asIndex
  refine wpAny_bind (wpAny_pure ?_)
  refine wpAny_pure ?_
  have g1 : Builtin.Bytes.fitsIndex n = true := by unfold Builtin.Bytes.fitsIndex; simp only [Bool.and_eq_true, decide_eq_true_eq]; omega
  have g2 : Builtin.Bytes.tooLong n.toNat = false := by unfold Builtin.Bytes.tooLong; rw [decide_eq_false_iff_not, Nat.not_lt]; exact Nat.le_trans (by omega) (by decide : 1000 ≤ sizeLine)
  have g3 : (n == 2 ^ 63 - 1) = false := by rw [beq_eq_false_iff_ne]; omega
  dsimp only
  rw [g1, if_neg (by decide), if_neg (by omega), g3, if_neg (by decide), g2, if_neg (by decide)]
  refine wpAny_bind (wpAny_rule ?_)
  rw [if_pos (by omega)]
  have h2 : (s.heap.update x (Obj.mapBytearray fun _ => #[])).get? x = some (baObj #[]) := Heap.get?_update_self (Obj.mapBytearray _) hx rfl
  refine wpAny_bind (ba_write h2 (by rw [Array.size_replicate]; exact Nat.le_trans (by omega) (by decide : 1000 ≤ sizeLine)) ?_)
  exact wpAny_pure (h _ rfl)
end
end Mine
end
section
open PySem PySem.W PySem.Spec PySem.Calls PyProof.Rows
open Sem (wp)
namespace Mine
theorem ba_slot_setitem : Slot "bytearray" "__setitem__" "bytearray.__setitem__" :=
  .of (owner := "bytearray") (n := "__setitem__") (by rw [typeLookup_type, builtinLookup_eq_fast]; kernel_rfl) (by decide +kernel) (by decide +kernel) (by decide +kernel)
    (by first | exact .inl (by decide +kernel) | exact .inr (by decide +kernel)) (by rw [isSubtype_type]; kernel_rfl)
theorem ba_entry_setitem : entryFor table "bytearray.__setitem__" = some Builtin.«bytearray.__setitem__» := by first | exact entryFor_of_fast (by kernel_rfl) | exact entryFor_of_tree (by kernel_rfl)
theorem bb_no_bytes : typeLookup (.type "bytearray") "__bytes__" = pure none := by rw [typeLookup_type, builtinLookup_eq_fast]; kernel_rfl
theorem bb_no_index : typeLookup (.type "bytearray") "__index__" = pure none := by rw [typeLookup_type, builtinLookup_eq_fast]; kernel_rfl
theorem bb_buffer : typeLookup (.type "bytearray") "__buffer__" = pure (some (.builtin "bytearray.__buffer__")) := by rw [typeLookup_type, builtinLookup_eq_fast]; kernel_rfl
theorem bb_end : "bytearray.__buffer__".endsWith ("." ++ "__buffer__") = true := by decide +kernel
theorem bb_owner : "bytearray.__buffer__".dropRight ("__buffer__".length + 1) = "bytearray" := by decide +kernel
theorem ba_args_setitem (a b c : Value) : argsOk "bytearray.__setitem__" ⟨[a, b, c], []⟩ := by kernel_rfl
section
variable {prog : Program} {w : World} {A : Around} {E : Value → Shared → Prop} {s : Shared}
theorem ba_payload {M : Model} {x : Addr} {b : Array UInt8} {Q : Array UInt8 → Shared → Prop} (hx : s.heap.get? x = some (baObj b)) (h : Q b s) : wpAny M A (Builtin.Bytes.payload (.ref x)) Q E s := by
  unfold Builtin.Bytes.payload Builtin.Bytes.payload?
  exact wpAny_bind (wpAny_bind (wpAny_load hx (wpAny_pure (wpAny_pure h))))
set_option maxRecDepth 100000 in
theorem ba_setItem {x : Addr} {b : Array UInt8} {k v : Int} {t u : Tok} {Q : Unit → Shared → Prop} (hx : s.heap.get? x = some (baObj b)) (h0 : 0 ≤ k) (h1 : k < b.size) (hz : b.size ≤ 1000) (hv : 0 ≤ v ∧ v < 256)
    (hQ : Q () { s with heap := s.heap.update x (Obj.mapBytearray (·.setIfInBounds k.toNat v.toNat.toUInt8)) }) : wpAny (model prog w) A (setItem (.ref x) (.int k t) (.int v u)) Q E s := by
  have hT : s.TypeIs (.ref x) "bytearray" := ⟨_, hx, rfl⟩
  unfold setItem
  refine wpAny_holding ?_
  refine wpAny_bind (wpAny_sequenceKey hT (by decide) ?_)
  refine wpAny_bind (wpAny_callSpecial?_slot (name := Str.ofString "__setitem__") hT ba_slot_setitem
    (wpAny_call_entry ba_slot_setitem hT ba_entry_setitem ?_ (ba_args_setitem _ _ _)))
  show wpAny _ _ (Builtin.Bytes.subscript? (.int k t) >>= _) _ _ s
  have g1 : Builtin.Bytes.fitsIndex k = true := by unfold Builtin.Bytes.fitsIndex; simp only [Bool.and_eq_true, decide_eq_true_eq]; omega
  unfold Builtin.Bytes.subscript?
  refine wpAny_bind (wpAny_bind (wpAny_specialOf (T := "int") (show Shared.TypeIs _ (.int k t) "int" from rfl) int_index ?_))
  rw [if_neg (by decide)]
  refine wpAny_bind (wpAny_of_eq (rfl : asIndex (.int k t) = pure k) ?_)
  rw [g1, if_neg (by decide)]
  refine wpAny_pure ?_
  dsimp only
  unfold Builtin.Bytes.byteValue
  refine wpAny_bind (wpAny_bind (wpAny_of_eq (rfl : asIndex (.int v u) = pure v) ?_))
  rw [if_neg (by simp only [Bool.or_eq_true, decide_eq_true_eq, not_or]; omega)]
  refine wpAny_pure ?_
  refine wpAny_bind (ba_payload hx ?_)
  have hk : seqIndex? k b.size = some k.toNat := by
    unfold seqIndex?
    simp only [Int.not_lt.mpr h0, if_false]
    rw [if_pos (by simp only [Bool.and_eq_true, decide_eq_true_eq]; omega)]
  rw [hk]
  dsimp only
  refine wpAny_bind (ba_write hx (by rw [Array.size_setIfInBounds]; exact Nat.le_trans hz (by decide)) ?_)
  exact wpAny_pure ⟨.none, rfl, wpAny_pure hQ⟩
set_option maxRecDepth 100000 in
theorem bb_new {x : Addr} {b : Array UInt8} {Q : Value → Shared → Prop} (hx : s.heap.get? x = some (baObj b)) (hz : b.size ≤ 1000)
    (hQ : ∀ t k, Q (.bytes b t) { s with toks := k }) :
    codeAny (model prog w) A (.call (.builtin "bytes.__new__") ⟨[.type "bytes", .ref x], []⟩) (wants Q E) s := by
  refine codeAny_of_tree ?_
  show wpAny _ A.in1 (do checkBuiltinCall "bytes.__new__" ⟨[.type "bytes", .ref x], []⟩; again (.builtin "bytes.__new__" ⟨[.type "bytes", .ref x], []⟩)) _ _ s
  refine wpAny_bind (wpAny_of_eq (F.bm_newCall _) (wpAny_pure ⟨plainId_quiet F.bm_plain _, codeAny_builtin F.bm_entry ?_⟩))
  rw [Around.under_plainId F.bm_plain _]
  have hT : s.TypeIs (.ref x) "bytearray" := ⟨_, hx, rfl⟩
  unfold Builtin.«bytes.__new__»
  refine wpAny_bind (wpAny_of_eq (a := true) rfl ?_)
  refine bm_if_false rfl ?_
  refine wpAny_bind (wpAny_of_eq F.bm_sub ?_)
  refine bm_if_false rfl ?_
  refine wpAny_bind (wpAny_of_eq (F.bm_bind _) ?_)
  refine wpAny_bind (wpAny_of_eq (a := ()) rfl ?_)
  refine wpAny_bind (wpAny_of_eq (a := ()) rfl ?_)
  refine bm_if_false rfl ?_
  refine wpAny_bind (wpAny_specialOf hT bb_no_bytes ?_)
  refine wpAny_bind (wpAny_bind ?_)
  show wpAny _ _ (load x >>= _) _ _ _
  refine wpAny_bind (wpAny_load hx ?_)
  refine wpAny_pure (wpAny_pure ?_)
  refine bm_if_false rfl ?_
  refine wpAny_bind (wpAny_specialOf hT bb_no_index ?_)
  refine bm_if_true rfl ?_
  first
    | show wpAny _ _ (Builtin.Bytes.buffer? "bytes.__new__" (.ref x) true >>= _) _ _ _
    | (refine wpAny_bind ?_; show wpAny _ _ (Builtin.Bytes.buffer? "bytes.__new__" (.ref x) true >>= _) _ _ _)
  refine wpAny_bind ?_
  unfold Builtin.Bytes.buffer?
  refine wpAny_bind (wpAny_specialOf hT bb_buffer ?_)
  dsimp only
  unfold Builtin.Bytes.slotIsOwn
  refine wpAny_bind (wpAny_bind (wpAny_specialOf hT bb_buffer ?_))
  dsimp only
  rw [bb_end, bb_owner]
  refine wpAny_isInstance hT ba_sub ?_
  rw [if_neg (by decide)]
  refine wpAny_bind (wpAny_specialOf hT bb_buffer ?_)
  try dsimp only
  refine wpAny_bind (ba_ownRelease hx rfl ?_)
  rw [if_neg (by decide)]
  refine wpAny_bind (ba_payload hx ?_)
  refine wpAny_pure ?_
  dsimp only
  refine wpAny_bind (wpAny_rule ?_)
  refine wpAny_bind (wpAny_mkBytes ?_ (Nat.le_trans hz (by decide)))
  show wpAny _ _ (if (Value.type "bytes" == Value.type "bytes") = true then _ else _) _ _ _
  refine bm_if_true (by decide) ?_
  first
    | exact wpAny_pure (hQ _ _)
    | exact wpAny_bind (wpAny_pure (wpAny_pure (hQ _ _)))
/-- bytes(x) of a bytearray -/
theorem bytesOfBa {x : Addr} {b : Array UInt8} {Q : Value → Shared → Prop} (hx : s.heap.get? x = some (baObj b)) (hz : b.size ≤ 1000)
    (hQ : ∀ t k, Q (.bytes b t) { s with toks := k }) : wpAny (model prog w) A (call (.type "bytes") [.ref x]) Q E s := by
  refine callType_codes (Q₁ := fun obj s₁ => s₁.TypeIs obj "bytes" ∧ Q obj s₁) F.bm_called (F.bm_typeCall _) F.entry_object_init
    (bb_new hx hz fun t k => ⟨PySem.W.typeIs_bytes _ _ _, hQ t k⟩) fun obj s₁ h₁ => ?_
  exact ⟨h₁.1, F.args_object_init_2 obj _, object_init_meets F.bm_called.init.lookup F.bm_called.made (by decide) prog w A.in1 _ s₁ ⟨h₁.1, rfl, h₁.2⟩⟩
/-- bytearray(n): a new one of n noughts -/
theorem makeBa {n : Int} {t : Tok} {Q : Value → Shared → Prop} (h0 : 0 < n) (h1 : n ≤ 1000)
    (h : ∀ h', h'.get? s.heap.objs.size = some (baObj (Array.replicate n.toNat 0)) → (∀ b o, s.heap.get? b = some o → h'.get? b = some o) → Q (.ref s.heap.objs.size) { s with heap := h' }) :
    wpP (model prog w) A (call (.type "bytearray") [.int n t] []) Q E s := by
  refine wpP_callBa fun s₁ e₁ => ?_
  have hx : s₁.heap.get? s.heap.objs.size = some (baObj #[]) := by subst e₁; exact Heap.get?_push_size _ rfl
  have keep : ∀ b o, s.heap.get? b = some o → s₁.heap.get? b = some o := by subst e₁; exact fun b o e => Heap.get?_push_of_some _ e
  have es : ∀ h', ({ s₁ with heap := h' } : Shared) = { s with heap := h' } := by subst e₁; exact fun _ => rfl
  refine baInit hx h0 h1 fun h' e' => ⟨rfl, ?_⟩
  rw [es]
  have hx2 := Heap.get?_update_self (Obj.mapBytearray fun _ => #[]) hx rfl
  have hx3 := Heap.get?_update_self (Obj.mapBytearray fun _ => Array.replicate n.toNat 0) hx2 rfl
  refine h h' ?_ fun b o e => ?_
  · rw [e']; exact hx3
  · rw [e', Heap.get?_update_other _ _ (Ne.symm (Nat.ne_of_lt (Heap.lt_size e))), Heap.get?_update_other _ _ (Ne.symm (Nat.ne_of_lt (Heap.lt_size e)))]
    exact keep b o e
end
section
variable {prog : Program} {w : World} {A : Around} {E : Value → Shared → Prop} {s : Shared} {h₀ : Heap} {L D : Addr} {m : PySem.Str → Option Value} {news : List (Addr × Obj)}
theorem makeBaK {n : Int} {t : Tok} {Q : Value → Shared → Prop} (F : Fr h₀ L s.heap m) (N : News h₀ L s.heap news) (h0 : 0 < n) (h1 : n ≤ 1000)
    (h : ∀ x h', Fr h₀ L h' m → News h₀ L h' ((x, baObj (Array.replicate n.toNat 0)) :: news) → (∀ p ∈ news, p.1 < x) → Q (.ref x) { s with heap := h' }) :
    wpP (model prog w) A (call (.type "bytearray") [.int n t] []) Q E s := by
  refine makeBa h0 h1 fun h' hx keep => h _ h' (F.keeps keep) (fun p hp => ?_) fun p hp => Heap.lt_size (N p hp).1
  rcases List.mem_cons.mp hp with rfl | hp
  · exact ⟨hx, Ne.symm (Nat.ne_of_lt F.ns.lt), next_is_new F⟩
  · exact ⟨keep _ _ (N p hp).1, (N p hp).2⟩
theorem bytesOfBaK {x : Addr} {b : Array UInt8} {Q : Value → Shared → Prop} (N : News h₀ L s.heap news) (hm : (x, baObj b) ∈ news) (hz : b.size ≤ 1000)
    (hQ : ∀ t k, Q (.bytes b t) { s with toks := k }) : wpAny (model prog w) A (call (.type "bytes") [.ref x]) Q E s := bytesOfBa (N _ hm).1 hz hQ
theorem ba_setItemK {x : Addr} {b : Array UInt8} {k v : Int} {t u : Tok} {Q : Unit → Shared → Prop} (F : Fr h₀ L s.heap m) (N : News h₀ L s.heap ((x, baObj b) :: news)) (hoff : ∀ p ∈ news, p.1 ≠ x) (h0 : 0 ≤ k) (h1 : k < b.size) (hz : b.size ≤ 1000) (hv : 0 ≤ v ∧ v < 256)
    (h : ∀ h', Fr h₀ L h' m → News h₀ L h' ((x, baObj (b.setIfInBounds k.toNat v.toNat.toUInt8)) :: news) → Q () { s with heap := h' }) : wpAny (model prog w) A (setItem (.ref x) (.int k t) (.int v u)) Q E s := by
  have z := N (x, baObj b) (.head _)
  refine ba_setItem z.1 h0 h1 hz hv (h _ (F.change (Heap.SameBut.update ..) z.2.1 z.2.2) fun p hp => ?_)
  rcases List.mem_cons.mp hp with rfl | hp
  · exact ⟨Heap.get?_update_self (Obj.mapBytearray _) z.1 rfl, z.2⟩
  · exact ⟨(Heap.get?_update_other _ _ (Ne.symm (hoff p hp))).trans (N p (.tail _ hp)).1, (N p (.tail _ hp)).2⟩
end
end Mine
end
section
open PySem PySem.W PySem.Spec PySem.Calls PyProof.Rows
open Sem (wp)
namespace Mine
section
variable {M : Model} {A : Around} {E : Value → Shared → Prop} {s : Shared} {env : Env}
theorem wpP_callTy1 {pos : Pos} {T : String} {e : Expr} {rest : List Expr} {Q : Value → Shared → Prop}
    (h : wpAny M A (spliced (backTo pos (starEach (e :: rest) env))) (fun vs s₁ => wpP M A (call (.type T) vs) Q E s₁) E s)
    (he : starEach (e :: rest) env = (false, eval e env) :: starEach rest env := by rfl)
    (hplain : (backTo pos (starEach rest env)).any (·.1) = false := by rfl) :
    wpP M A (callWith pos (.type T) [] (backTo pos (starEach (e :: rest) env)) []) Q E s := by
  rw [he] at h ⊢
  exact wpP_callTy (by show (false || (backTo pos (starEach rest env)).any (·.1)) = false; rw [hplain]; rfl) (evalArgs_plain h)
theorem wpP_callFn1 {pos : Pos} {f : Addr} {o : Obj} {fd : FuncData} {e : Expr} {rest : List Expr} {Q : Value → Shared → Prop}
    (h : wpAny M A (spliced (backTo pos (starEach (e :: rest) env))) (fun vs s₁ => (s₁.heap.get? f = some o ∧ o.data = .func fd) ∧ wpP M A (call (.ref f) vs) Q E s₁) E s)
    (he : starEach (e :: rest) env = (false, eval e env) :: starEach rest env := by rfl)
    (hplain : (backTo pos (starEach rest env)).any (·.1) = false := by rfl)
    (hn : (backTo pos (starEach (e :: rest) env)).length ≤ 30 := by exact Nat.le_of_ble_eq_true rfl) :
    wpP M A (callWith pos (.ref f) [] (backTo pos (starEach (e :: rest) env)) []) Q E s := by
  rw [he] at h hn ⊢
  exact wpP_callFn (by show (false || (backTo pos (starEach rest env)).any (·.1)) = false; rw [hplain]; rfl) hn (evalArgs_plain h)
end
end Mine
end
section
open PySem PySem.W PySem.Spec PySem.Calls PyProof.Rows
open Sem (wp)
namespace Mine
/-- the one context in which the claim's call stands -/
abbrev Γ1 : PySem.Ctx := ⟨.builtin "claim.caller" {}, none, none, [], none⟩
theorem wpP_caller {M : Model} {t : Sem α} {Q : α → Shared → Prop} {E : Value → Shared → Prop} {s : Shared} (h : wpP M callerA t Q E s) : wp M Γ1 t (fun a _ s' => Q a s') (fun e _ s' => E e s') default s :=
  h Γ1 default caller_in (by decide +kernel) (fun _ hx => absurd hx List.not_mem_nil)
/-- the call at its one context ends on the real machine -/
theorem callerEnds {prog : Program} {w : World} {t : Sem Fin} {s : Shared} {R : Result → Shared → Prop} (hz : s.asleep)
    (h : wpP (model prog w) callerA t (fun fin s' => ∃ f, fin = .done f ∧ R (.ok f) s' ∧ AllBare s'.gens) (fun e s' => R (.error e) s' ∧ AllBare s'.gens) s) :
    ∃ n r s' s'', runN (denote table) prog w n s ⟨t, .builtin "claim.caller" {}, default, []⟩ = .halted (outcomeOf r) s' ∧
      schedN (denote table) prog w n (.single s ⟨t, .builtin "claim.caller" {}, default, []⟩) = .halted (outcomeOf r) s' ∧ s'.forget = s''.forget ∧ R r s'' := by
  have hw : wp (model prog w) Γ1 t (Sem.finPost (model prog w) Γ1 fun r s' => R r s' ∧ leftWithCleanup s'.gens = false) (fun e _ s' => R (.error e) s' ∧ leftWithCleanup s'.gens = false) default s := by
    refine Sem.wp_mono _ _ _ ?_ ?_ _ _ (wpP_caller h)
    · rintro _ _ _ ⟨f, rfl, a, b⟩
      exact ⟨a, leftWithCleanup_false_of_bare b⟩
    · rintro _ _ _ ⟨a, b⟩
      exact ⟨a, leftWithCleanup_false_of_bare b⟩
  obtain ⟨n, r, s₁, s₂, a, b, c, d⟩ := wp_halts_full (M := model prog w) (R := R) hz hw
  exact ⟨n, r, s₂, s₁, b, a, c, d⟩
/-- the head of a row without tables that writes nothing: its walk stands at clean contexts alone -/
theorem ownHead {r : OpenRow} {q : Program} {loose : List PySem.Str} {Xt : Shared → Bool} {XP : (PySem.Str → Option Value) → Heap → Prop} {α : Type} {Yf : Shared → α} {Ya : World → α} {YP : World → Heap → Prop} {d : DefRec} {kwd : List (PySem.Str × Expr)} {N : Nat}
    (left : LeftO r.prog q loose Xt Yf Ya N) (hY : ∀ w s, Yf s = Ya w → YP w s.heap) (hYk : ∀ w h h', YP w h → (∀ b o, h.get? b = some o → h'.get? b = some o) → YP w h')
    (hX : ∀ s, Xt s = true → XP (s.heap.nsMap mainGlobals) s.heap) (hXk : ∀ mg h h', XP mg h → (∀ b o, h.get? b = some o → h'.get? b = some o) → XP mg h')
    (hdef : defOf q r.name = some (d, kwd)) (hp : r.prog.theDef r.name = some (d.params, d.body, d.scope)) (hk : kwWritten? d.params.kwonlyargs d.params.kw_defaults = some kwd)
    (hrec : r.records = []) (hwr : r.writes = false) (hfree : frees r.toRowW = true) (hwi : r.within = [])
    (k1 : r.wellSaid = true) (hch : chainsOk q = true) (hop : opensWell r.prog = true) (hb : r.prog.bare) (hw : r.toRowW.promised)
    (call : ∀ (w : World) (s₀ s₁ : Shared) (mg mb : PySem.Str → Option Value), Ground q loose r.records XP w s₀ mg mb s₁.heap → YP w s₁.heap → ∀ (a : Addr) (o : Obj) (pm cd doc dV kV : Value), s₁.heap.get? a = some o →
      o.data = .func { docDef d.name d.params d.body d.scope pm cd doc with defaults := dV, kwdefaults := kV } → s₁.heap.CodeRec cd d.name → Dflts mg s₁.heap d.params kwd dV kV → mg d.name = some (.ref a) → s₁.gens = #[] →
      ∀ (args : List WData) (vals : List Value) (as : List Addr), r.toRowW.claim.pre args = true → WData.layableAll args = true → ReadsAllW r.records (classAt s₀.heap) s₁.heap vals args as → WellAll w.params s₁.heap vals args → (∀ a ∈ as, (a == sysModules) = false) →
      wpP (model r.prog w) callerA (PySem.call (.ref a) vals) (fun v s' => GoodWG r.toRowW.claim (classAt s₀.heap) (ExcName.means s₀.heap) args s₁ (.ok (.ret v)) s')
        (fun e s' => GoodWG r.toRowW.claim (classAt s₀.heap) (ExcName.means s₀.heap) args s₁ (.error e) s') s₁) : r.Holds := by
  obtain ⟨hsame, hu, ha, hap, hm⟩ := frees_parts hfree
  have hi := ident_freeW hu ha hap
  have hcr : r.toRowW.claim.records = [] := hrec
  refine ⟨k1, hw, ⟨hb, hop, by show r.makers.map _ = []; rw [hm]; rfl⟩, hw.witness, fun w => ?_⟩
  have both := left.behind hX hch w
  refine ⟨both.1, fun s' hs' => ?_⟩
  obtain ⟨s₀, hf, hg0, s, hT, hz, hgens, hg, G0, y⟩ := both.2 s' hs'
  have hgens : s.gens = #[] := Array.eq_empty_of_size_eq_zero (beq_iff_eq.mp hgens)
  have G : Ground q loose r.records XP w s _ _ s.heap := (recFacts_nil hrec).ground G0
  refine ⟨s₀, hf, hg0, s, hT, fun n hn => ?_, fun x hx => ?_, fun x hx => ?_, ?_⟩
  · obtain rfl : n = r.name := by split at hn <;> simp_all
    exact pinned_of_view hg G0 hdef hp hk
  · rw [hcr] at hx; cases hx
  · rw [hcr] at hx; cases hx
  intro args hpre hlay ord hord
  obtain ⟨⟨vs, s₁⟩, hlaid⟩ := Option.isSome_iff_exists.mp (layAllW_isSome (P := w.params) (ord := ord) G.has args r.args s (pre_splitW hpre).1)
  have keeps := layAllW_keeps _ _ _ hlaid
  have hal := layAllW_rest _ _ _ hlaid
  obtain ⟨as, hrd, hin, hold⟩ := reads_layAllW hord _ _ _ hlaid hlay s₁.heap (fun _ _ e => e)
  have L : Laid r.records w s s₁ args vs as := ⟨⟨ord, hord, hlaid⟩, hrd, hin, hold, keeps, hal.1.trans hgens, hal.2.2.1⟩
  have G₁ := G.keeps hXk keeps
  obtain ⟨a, o, pm, cd, doc, dV, kV, h1, h2, h3, h4, h5⟩ := G₁.fn hdef
  have go := call w s s₁ _ _ G₁ (hYk _ _ _ (hY w s y) keeps) a o pm cd doc dV kV h2 h3 h4 h5 (defOf_name hdef ▸ h1) L.gens args vs as hpre hlay L.reads L.well (L.low G.low)
  have run : wpP (model r.prog w) callerA (do match ← nsGet mainNs r.name with
      | some f => do ret (← PySem.call f vs)
      | none => unsupported "claim.caller:no-such-global") (fun fin s' => ∃ f, fin = .done f ∧ (r.toRowW.claim.Ends s args vs s₁ (.ok f) s' ∧ s'.os = s.os) ∧ AllBare s'.gens)
      (fun e s' => (r.toRowW.claim.Ends s args vs s₁ (.error e) s' ∧ s'.os = s.os) ∧ AllBare s'.gens) s₁ := by
    refine wpP_bindAny (wpAny_nsGet G₁.T.g ?_)
    rw [h1]
    refine wpP_bind (wpP_mono go (fun v s' g => wpP_pure ⟨_, rfl, ?_⟩) fun e s' g => ?_)
    · have z := g.laid (c := r.toRowW.claim) hsame hwi hi L
      exact ⟨⟨z.1, z.2.1⟩, z.2.2⟩
    · have z := g.laid (c := r.toRowW.claim) hsame hwi hi L
      exact ⟨⟨z.1, z.2.1⟩, z.2.2⟩
  obtain ⟨k, res, s₂, s₃, hrun, hsched, hfo, hcase, hos⟩ := callerEnds (R := fun x s' => r.toRowW.claim.Ends s args vs s₁ x s' ∧ s'.os = s.os) (Shared.asleep_of_life hal.2.2.2 hz) run
  obtain ⟨eh, _, _, eo, _⟩ := Shared.forget_eq hfo
  have hcase := hcase.congr eh
  rw [← eo] at hos
  have hlife : s₂.heap.life = s.heap.life := (runN_life _ _ _ hrun).trans hal.2.2.2
  refine ⟨vs, s₁, hlaid, k, _, s₂, hsched, ?_, fun _ i x hx => ?_, fun hx => ?_, by rw [hlife], Shared.rest_eq hos⟩
  · rcases hcase with ⟨v, rfl, d1, d2, d3, d4, d5⟩ | ⟨e, ob, cls, rfl, d1, d2, d3, d4, d5⟩
    · exact .inl ⟨v, rfl, d1, d2, d3, fun b o y _ => d4 b o y, d5⟩
    · exact .inr ⟨e, ob, cls, rfl, d1, d2, d3, d4, fun b o y _ => d5 b o y⟩
  · rw [hgens] at hx; simp at hx
  · rw [hwr] at hx; cases hx
end Mine
end
open PySem PySem.W PySem.Spec PySem.Calls PyProof.Rows
namespace Mine
section
local macro_rules | `(tactic| o_head $_) => `(tactic| assumption)
set_option maxRecDepth 100000 in
set_option maxHeartbeats 8000000 in
theorem hd (h : PySem.Challenge.rw_ic0006_01.row.Holds) : PySem.Challenge.rw_ic0006_01.row.Holds := by k_head
end
local macro_rules | `(tactic| k_mem) => `(tactic| first | assumption | (refine (by assumption : ∀ q ∈ _, q ∈ _) _ ?_; k_mem) | fail "k_mem: mine")
local macro_rules | `(tactic| walk_at "binaryOp RShift int int") => `(tactic| (k_here; k_dflt (refine' rshq ?ha ?hb ?_; (case ha => omega); (case hb => omega)); intro q9' t9' e9' l9' m9'))
local macro_rules | `(tactic| walk_at "binaryOp RShift int int") => `(tactic| (k_here; (with_reducible show wpAny _ _ (binaryOp _ (Value.int _ _) (Value.int 1 _)) _ _ _); k_dflt (refine' half ?ha ?_; (case ha => omega)); intro q9' t9' l9' m9'))
local macro_rules | `(tactic| walk_at "binaryOp LShift int int") => `(tactic| (k_here; k_dflt (refine' lshq ?ha ?hb ?hc ?hd ?_; (case ha => omega); (case hb => omega); (case hc => omega); (case hd => omega)); intro q9' t9' e9' l9'))
local macro_rules | `(tactic| walk_at "binaryOp BitXor int int") => `(tactic| (k_here; k_dflt (refine' xorq ?ha ?hq ?hv ?_; (case ha => omega); (case hq => assumption); (case hv => assumption)); intro q9' t9' e9' l9' m9'))
local macro_rules | `(tactic| k_all) => `(tactic| first | assumption | exact fun q hq => Nat.ne_of_lt (Nat.lt_of_lt_of_le (ktn_ltOf (by assumption) q hq) (by omega)) | fail "k_all: mine")
local macro_rules | `(tactic| walk_at "mycut") => `(tactic| first | exact Cut.head | (refine' Cut.tail ?cutR; case cutR => walk_at "mycut"))
local macro_rules | `(tactic| walk_at "mytab") => `(tactic| first | exact Or.imp_right (fun x => TabF.mono x (by walk_at "mysub")) (by assumption))
local macro_rules | `(tactic| walk_at "mysub") => `(tactic| first | exact List.forall_mem_nil _ | (refine' List.forall_mem_cons.mpr ⟨?_, ?_⟩; (k_mem); walk_at "mysub") | (intro q hq; repeat' (first | exact hq | (refine (by assumption : ∀ q ∈ _, q ∈ _) _ ?_) | refine List.Mem.tail _ ?_)))

local macro_rules | `(tactic| walk_at "call builtin:len") => `(tactic| (k_here; (with_reducible show wpAny _ _ (call (Value.builtin "len") [Value.ref _]) _ _ _); k_dflt (refine' lenL ?N ?m ?i ?z ?_; (case N => k_asm); (case m => k_mem); (case i => k_asm); (case z => omega))))
local macro_rules | `(tactic| walk_at "binaryOp LShift int int") => `(tactic| (k_here; (with_reducible show wpAny _ _ (binaryOp _ (Value.int _ _) (Value.int 5 _)) _ _ _); k_dflt (refine' lsh5 ?ha ?hb ?_; (case ha => omega); (case hb => omega)); intro q9' t9' e9'))
local macro_rules | `(tactic| walk_at "call builtin:int.bit_length") => `(tactic| (k_here; (with_reducible show wpAny _ _ (call (Value.builtin _) [Value.int 17 _]) _ _ _); with_reducible refine bl17 ?_))
local macro_rules | `(tactic| walk_at "myenter") => `(tactic| (refine wpAny_call ?_; (refine' code_def ?k1 ?k2 ?k3 ?k4 ?k5 ?kA ?kF ?kK ?k6 ?k7 ?k8 ?k9 ?kB ?_ ?c2 ?c3 ?c4 ?c5; (case kA => exact rfl); (case kF => exact rfl); (case kK => assumption); (case k1 => k_asm); (case k2 => k_asm); (case k3 => k_asm); (case k4 => k_asm); (case k5 => k_asm); (case k6 => k_is); (case k7 => k_is); (case k8 => ktr_room); (case k9 => exact BindsTo.of_eq rfl); (case c5 => decide); (case kB => exact locs rfl); (case c2 => exact rfl); (case c3 => exact rfl); (case c4 => exact rfl); k_whole; intro g' L' h' FG' F' N' B' X' T'; (try dsimp only); (try k_fold))))
local macro_rules | `(tactic| walk_at "myenterC") => `(tactic| (refine wpAny_call ?_; (refine' code_defC ?k1 ?k2 ?k3 ?k4 ?k5 ?kA ?kF ?kK ?k6 ?k7 ?k8 ?k9 ?kB ?kD ?_ ?c2 ?c3 ?c4; (case kA => exact rfl); (case kF => exact rfl); (case kK => assumption); (case k1 => k_asm); (case k2 => k_asm); (case k3 => k_asm); (case k4 => k_asm); (case k5 => k_asm); (case k6 => k_is); (case k7 => k_is); (case k8 => ktr_room); (case k9 => exact BindsTo.of_eq rfl); (case kB => exact rfl); (case kD => decide +kernel); (case c2 => exact rfl); (case c3 => exact rfl); (case c4 => exact rfl); k_whole; intro g' L' h' tk' cells' FG' F' N' Y' B' X' T' l1; (try k_lt l1); k_cells Y'; (try simp only [List.cons_append, List.nil_append] at N'); (try dsimp only); (try k_fold))))
theorem bidx4 {k : Int} (h : k < 0 + (((4 : Int) - 0).toNat : Int)) : k < ((0 + 1 + 1 + 1 + 1 : Nat) : Int) := h
theorem bidxZ {k : Int} (h : k < 0 + (((4 : Int) - 0).toNat : Int)) : k ≤ 1000000 := Int.le_of_lt (Int.lt_trans h (by decide))
local macro_rules | `(tactic| walk_at "mybidx") => `(tactic| ((try simp only [List.length_cons, List.length_nil]); first | exact bidx4 (by assumption) | exact bidxZ (by assumption) | omega | exact Int.fmod_nonneg_of_pos _ (by decide) | exact Int.fmod_lt_of_pos _ (by decide) | fail "mybidx"))
local macro_rules | `(tactic| walk_at "subscriptTail") => `(tactic| (k_here; (with_reducible show wpAny _ _ (subscriptTail _ _ (Value.bytes _ _) (Value.int _ _)) _ _ _); (refine KBw.item_K (by kba_ints) (by walk_at "mybidx") (by walk_at "mybidx") (by walk_at "mybidx") ?_); intro _ _ kbaLo kbaHi))
def In1 (prog : Program) (w : World) (K : Frag) (p : Program) (loose : List PySem.Str) (mean : ExcName → Option Value) (mg mb : PySem.Str → Option Value) (f l : Addr) (own₀ : List (Addr × Obj)) (k : Nat) : Prop :=
  ∀ (dp un : Nat) (gd : Option (List Code)) (cn : PySem.Str) (cs : Scope) (a : Addr) (ccd : Value) (cl : List (PySem.Str × Addr)) (outer : List Env) (A₀ : Around) (base h₀ : Heap) (L : Addr) (m : PySem.Str → Option Value) (s : Shared) (Q E : Value → Shared → Prop)
    (own : List (Addr × Obj)) (vs : List Value) (ns : List Int) (e : Nat) (x lo hi : Int) (t1 t2 t3 : Tok),
    Below A₀ base outer h₀ → Fr h₀ L s.heap m → K.In h₀ → News h₀ L s.heap ((l, W.listOf vs.toArray e) :: own) → Top p loose mean mg mb h₀ → cs.kind = .function →
    (∀ q ∈ own₀, q ∈ own) → (∀ q ∈ own, q.1 ≠ l) → IntsAre vs ns → 0 ≤ lo → hi - lo = (k : Int) → 0 < k → hi ≤ ns.length → ns.length ≤ 5 → 0 ≤ x → x < p2 (5 * k) → dp + k < recursionLimit → un + 8 * k < cLine →
    (∀ vs' h' tk', Fr h₀ L h' m → News h₀ L h' ((l, W.listOf vs'.toArray e) :: own) → IntsAre vs' (putd ns lo.toNat k x) → Q .none { s with heap := h', toks := tk' }) →
    wpAny (model prog w) (ktrTop dp un gd cn cs L a ccd cl outer) (call (.ref f) [.int x t1, .int lo t2, .int hi t3]) Q E s
def In1All (prog : Program) (w : World) (K : Frag) (p : Program) (loose : List PySem.Str) (mean : ExcName → Option Value) (mg mb : PySem.Str → Option Value) (f l : Addr) (own₀ : List (Addr × Obj)) (n : Nat) : Prop :=
  ∀ k, k < n → In1 prog w K p loose mean mg mb f l own₀ k
section
variable {prog : Program} {w : World} {K : Frag} {p : Program} {loose : List PySem.Str} {mean : ExcName → Option Value} {mg mb : PySem.Str → Option Value} {f l : Addr} {own₀ : List (Addr × Obj)}
theorem in1_all (step : ∀ n, In1All prog w K p loose mean mg mb f l own₀ n → In1 prog w K p loose mean mg mb f l own₀ n) : ∀ n, In1All prog w K p loose mean mg mb f l own₀ n := by
  intro n
  induction n with
  | zero => intro k h; exact absurd h (Nat.not_lt_zero _)
  | succ n ih => exact fun k h => if e : k < n then ih k e else (show k = n by omega) ▸ step n ih
theorem in1_use {n : Nat} {k : Nat} {dp un : Nat} {gd : Option (List Code)} {cn : PySem.Str} {cs : Scope} {a : Addr} {ccd : Value} {cl : List (PySem.Str × Addr)} {outer : List Env} {A₀ : Around} {base h₀ : Heap} {L : Addr} {m : PySem.Str → Option Value} {s : Shared} {Q E : Value → Shared → Prop}
    {own : List (Addr × Obj)} {vs : List Value} {ns : List Int} {e : Nat} {x lo hi : Int} {t1 t2 t3 : Tok} (H : In1All prog w K p loose mean mg mb f l own₀ n)
    (B : Below A₀ base outer h₀) (F : Fr h₀ L s.heap m) (X : K.In h₀) (N : News h₀ L s.heap ((l, W.listOf vs.toArray e) :: own)) (T : Top p loose mean mg mb h₀) (hk : cs.kind = .function)
    (h1 : ∀ q ∈ own₀, q ∈ own) (h2 : ∀ q ∈ own, q.1 ≠ l) (h3 : IntsAre vs ns) (h4 : 0 ≤ lo) (h5 : hi - lo = (k : Int)) (h6 : 0 < k) (hkn : k < n) (h7 : hi ≤ ns.length) (h8 : ns.length ≤ 5) (h9 : 0 ≤ x) (h10 : x < p2 (5 * k)) (hd : dp + k < recursionLimit) (hu : un + 8 * k < cLine)
    (ret : ∀ vs' h' tk', Fr h₀ L h' m → News h₀ L h' ((l, W.listOf vs'.toArray e) :: own) → IntsAre vs' (putd ns lo.toNat k x) → Q .none { s with heap := h', toks := tk' }) :
    wpAny (model prog w) (ktrTop dp un gd cn cs L a ccd cl outer) (call (.ref f) [.int x t1, .int lo t2, .int hi t3]) Q E s :=
  H k hkn _ _ _ _ _ _ _ _ _ _ _ _ _ _ _ _ _ _ _ _ _ _ _ _ _ _ _ B F X N T hk h1 h2 h3 h4 h5 h6 h7 h8 h9 h10 hd hu ret
end
set_option maxRecDepth 100000 in
set_option maxHeartbeats 2000000 in
theorem int2digits {w : World} {p : Program} {loose : List PySem.Str} {mean : ExcName → Option Value} {mg mb : PySem.Str → Option Value}
   {dp un : Nat} {gd : Option (List Code)} {cn : PySem.Str} {cs : Scope} {a : Addr} {ccd : Value} {cl : List (PySem.Str × Addr)} {outer : List Env} {A₀ : Around} {base h₀ : Heap} {L : Addr} {m : PySem.Str → Option Value} {s : Shared} {Q E : Value → Shared → Prop}
   {rest : List (Addr × Obj)} {oA : Obj} {n : Int} {t u : Tok}
    (B : Below A₀ base outer h₀) (F : Fr h₀ L s.heap m) (X : (hd.heap_1 w.params).In h₀) (N : News h₀ L s.heap ((30, oA) :: rest)) (T : Top p loose mean mg mb h₀) (hk : cs.kind = .function)
    (C : CodeHd base 34 30) (off : ∀ q ∈ rest, q.1 ≠ 30) (hA : oA = tabObj #[] ∨ TabF 32 4 "_int2digits.<locals>.inner" oA rest)
    (hdp : dp + 40 < recursionLimit) (hun : un + 300 < cLine) (h0 : 0 ≤ n) (h1 : n < 33554432)
    (ret : ∀ l vs c1 oc1 vs1 tt h' tk', Fr h₀ L h' m → News h₀ L h' ((l, W.listOf vs.toArray 0) :: (30, tabObj #[rawInt 32, rawInt 4, .ref c1]) :: (c1, oc1) :: rest) → oc1.data = .fields vs1 → vs1[1]? = some (.str "_int2digits.<locals>.inner" tt) →
      (TabF 32 4 "_int2digits.<locals>.inner" oA rest → oA = tabObj #[rawInt 32, rawInt 4, .ref c1]) → (∀ q ∈ rest, q.1 < l) → Digs vs n → Q (.ref l) { s with heap := h', toks := tk' }) :
    wpAny (model PySem.Challenge.rw_ic0006_01.row.prog w) (ktrTop dp un gd cn cs L a ccd cl outer) (call (.ref 35) [.int n t, .int 5 u]) Q E s := by
  obtain ⟨k, hke, hk1, hk2, hk3, hk4⟩ := bits_digits h0 h1
  refine wpAny_call ?_
  (refine' code_defC ?k1 ?k2 ?k3 ?k4 ?k5 ?kA ?kF ?kK ?k6 ?k7 ?k8 ?k9 ?kB ?kD ?_ ?c2 ?c3 ?c4; (case kA => exact rfl); (case kF => exact rfl); (case kK => assumption); (case k1 => k_asm); (case k2 => k_asm); (case k3 => k_asm); (case k4 => k_asm); (case k5 => k_asm); (case k6 => k_is); (case k7 => k_is); (case k8 => ktr_room); (case k9 => first | exact BindsTo.of_eq rfl | exact binds_K (by k_in) rfl (by k_is) rfl rfl rfl | fail "k_enter: no rule for these arguments"); (case kB => exact rfl); (case kD => decide +kernel); (case c2 => exact rfl); (case c3 => exact rfl); (case c4 => exact rfl); k_whole; intro g' L' h' tk' cells' FG' F' N' Y' B' X' T' l1; (try k_lt l1); (obtain ⟨o1', o2', o3', hE', d1', d2', d3'⟩ := CellsAre.three Y'); subst hE'; clear Y'; (try simp only [List.cons_append, List.nil_append] at N'); (try dsimp only); (try k_lift B'); (try k_fold))
  have hR := l1.2
  have hRl := fun q hq => ktn_ltOf l1.2 q hq
  replace d1' := (show _ = Data.cell none from d1')
  replace d2' := (show _ = Data.cell none from d2')
  replace d3' := (show _ = Data.cell (some (.int 5 u)) from d3')
  k_steps
  (refine' nestDef_K ?d0 ?k0 ?a0 ?_; (case d0 => exact rfl); (case k0 => exact rfl); (case a0 => exact rfl))
  (refine' nestAny ?F ?N ?T ?C ?cd ?c ?o ?h ?cl ?_; (case F => k_asm); (case N => k_asm); (case T => k_asm); (case cd => exact rfl); (case C => kn_code); (case c => walk_at "mycut"); (case o => k_all); (case h => exact hA.imp_right (fun x => TabF.mono x (by walk_at "mysub"))); (case cl => exact rfl); k_whole)
  intro f1 c1 oc1 vs1 tt1 ctv1 doc1 h1' tk1 F' N' hd1 hv1 hl1 hne hfull
  k_lt hl1
  dsimp only
  have hn1 := hne _ (.head _) (fun _ e => nomatch e)
  have hn2 := hne _ (.tail _ (.head _)) (fun _ e => nomatch e)
  have hn3 := hne _ (.tail _ (.tail _ (.head _))) (fun _ e => by rw [d1'] at e; cases e)
  have hn4 := hne _ (.tail _ (.tail _ (.tail _ (.head _)))) (fun _ e => by (rename _ = Data.cell (some (Value.ref _)) => dd); rw [dd] at e; cases e)
  have hn5 := hne _ (.tail _ (.tail _ (.tail _ (.tail _ (.head _))))) (fun _ e => by rw [d3'] at e; cases e)
  clear hne
  dsimp only at hn1 hn2 hn3 hn4 hn5
  k_steps
  · refine' in1_use (n := k + 1) (k := k) (in1_all ?step _) ?kB ?kF ?kX ?kN ?kT ?kk ?i1 ?i2 ?i3 ?i4 ?i5 ?i6 ?i7 ?i8 ?i9 ?ia ?ib ?id ?iu ?_
    case kB => k_asm
    case kF => k_asm
    case kX => k_asm
    case kN => exact news_front (by k_asm) (by walk_at "mycut")
    case kT => k_asm
    case kk => exact rfl
    case i1 => exact fun _ h => h
    case i2 => k_all
    case i3 => k_asm
    case i4 => decide
    case i5 =>
      rename (0 ≤ _ → (_ : Int) = _) => e9
      have e9' := e9 (by omega)
      omega
    case i6 => exact hk3 (by assumption)
    case i7 => omega
    case i8 => omega
    case i9 => omega
    case ia => omega
    case ib => exact hk1
    case id => ktr_room
    case iu => ktr_units
    case step =>
      intro k IH
      unfold In1
      intro dp un gd cn cs a ccd cl outer A₀ base h₀ L m s Q E own vs ns e x lo hi t1 t2 t3 B F X N T hk hsub hne hint hlo hhi hkp hle hle5 hx0 hx1 hd hu ret
      have hx2 := pow5 hx1 (by omega : k ≤ 5)
      refine wpAny_call ?_
      (refine' code_nest ?k1 ?k2 ?k3 ?k4 ?k5 ?kA ?kF ?kK ?k6 ?k7 ?k8 ?k9 ?kB ?_ ?c2 ?c3 ?c4 ?c5; (case kA => exact rfl); (case kF => exact rfl); (case kK => assumption); (case k1 => k_asm); (case k2 => k_asm); (case k3 => k_asm); (case k4 => k_asm); (case k5 => k_asm); (case k6 => k_mem); (case k7 => exact codeRec_news (by k_asm) (by k_mem) (by assumption) (by assumption)); (case k8 => ktr_room); (case k9 => exact BindsTo.of_eq rfl); (case c5 => decide); (case kB => exact locs rfl); (case c2 => exact rfl); (case c3 => exact rfl); (case c4 => exact rfl); k_whole; intro g' L' h' FG' F' N' B' X' T'; (try dsimp only); (try k_lift B'); (try k_fold))
      k_steps
      · have hk1 : k = 1 := by omega
        subst hk1
        have e32 : p2 (5 * 1) = 32 := rfl
        exact ret _ _ _ (by k_asm) (by k_asm) (by rw [← putd_one hx0 (by omega)]; assumption)
      · refine' in1_use IH ?kB ?kF ?kX ?kN ?kT ?kk ?i1 ?i2 ?i3 ?i4 ?i5 ?i6 ?i7 ?i8 ?i9 ?ia ?ib ?id ?iu ?_
        case kB => k_asm
        case kF => k_asm
        case kX => k_asm
        case kN => k_asm
        case kT => k_asm
        case kk => exact rfl
        case i1 => exact hsub
        case i2 => exact hne
        case i3 => exact hint
        case i4 => exact hlo
        case i5 => exact (Int.toNat_of_nonneg (by omega)).symm
        case i6 => omega
        case i7 => omega
        case i8 => omega
        case i9 => exact hle5
        case ia => omega
        case ib => exact low_lt (by assumption) (by omega)
        case id => ktr_room
        case iu => ktr_units
        intro vs9 h9 tk9 F9 N9 hi9
        k_steps
        refine' in1_use IH ?kB ?kF ?kX ?kN ?kT ?kk ?i1 ?i2 ?i3 ?i4 ?i5 ?i6 ?i7 ?i8 ?i9 ?ia ?ib ?id ?iu ?_
        case kB => k_asm
        case kF => k_asm
        case kX => k_asm
        case kN => k_asm
        case kT => k_asm
        case kk => exact rfl
        case i1 => exact hsub
        case i2 => exact hne
        case i3 => exact hi9
        case i4 => omega
        case i5 => exact (Int.toNat_of_nonneg (by omega)).symm
        case i6 => omega
        case i7 => omega
        case i8 => rw [putd_length]; omega
        case i9 => rw [putd_length]; exact hle5
        case ia => omega
        case ib => exact up_lt (by assumption) hx0 hx1 (by omega)
        case id => ktr_room
        case iu => ktr_units
        intro vs8 h8 tk8 F8 N8 hi8
        k_steps
        refine ret _ _ _ (by k_asm) (by k_asm) ?_
        refine' putd_join hx0 ?a1 ?a2 ?a3 hlo ?a4 ?a5 hhi hi8
        case a1 => assumption
        case a2 => assumption
        case a3 => rfl
        case a4 => omega
        case a5 => omega
    · intro vs' h' tk' F' N' hi'
      k_steps
      refine ret _ _ c1 oc1 vs1 _ _ _ (by k_asm) (cb_drop (by k_asm) (by walk_at "mysub")) hd1 hv1 (fun x => hfull (TabF.mono x (by walk_at "mysub"))) (fun q hq => Nat.lt_trans (hRl q hq) (by omega)) (digs_end hi' hke h0 hk1 hk2)
  · refine ret _ _ c1 oc1 vs1 _ _ _ (by k_asm) (cb_drop (by k_asm) (by walk_at "mysub")) hd1 hv1 (fun x => hfull (TabF.mono x (by walk_at "mysub"))) (fun q hq => Nat.lt_trans (hRl q hq) (by omega)) (digs_nil (by assumption) hke (by assumption) (hk4 (by assumption)))

def In2 (prog : Program) (w : World) (K : Frag) (p : Program) (loose : List PySem.Str) (mean : ExcName → Option Value) (mg mb : PySem.Str → Option Value) (f l : Addr) (vs : List Value) (ns : List Int) (e : Nat) (own₀ : List (Addr × Obj)) (k : Nat) : Prop :=
  ∀ (dp un : Nat) (gd : Option (List Code)) (cn : PySem.Str) (cs : Scope) (a : Addr) (ccd : Value) (cl : List (PySem.Str × Addr)) (outer : List Env) (A₀ : Around) (base h₀ : Heap) (L : Addr) (m : PySem.Str → Option Value) (s : Shared) (Q E : Value → Shared → Prop)
    (own : List (Addr × Obj)) (lo hi : Int) (t2 t3 : Tok),
    Below A₀ base outer h₀ → Fr h₀ L s.heap m → K.In h₀ → News h₀ L s.heap own → Top p loose mean mg mb h₀ → cs.kind = .function →
    (∀ q ∈ own₀, q ∈ own) → 0 ≤ lo → hi - lo = (k : Int) → 0 < k → hi ≤ ns.length → dp + k < recursionLimit → un + 8 * k < cLine →
    (∀ v t h' tk', Fr h₀ L h' m → News h₀ L h' own → 0 ≤ v → v < p2 (5 * k) → Q (.int v t) { s with heap := h', toks := tk' }) →
    wpAny (model prog w) (ktrTop dp un gd cn cs L a ccd cl outer) (call (.ref f) [.int lo t2, .int hi t3]) Q E s
def In2All (prog : Program) (w : World) (K : Frag) (p : Program) (loose : List PySem.Str) (mean : ExcName → Option Value) (mg mb : PySem.Str → Option Value) (f l : Addr) (vs : List Value) (ns : List Int) (e : Nat) (own₀ : List (Addr × Obj)) (n : Nat) : Prop :=
  ∀ k, k < n → In2 prog w K p loose mean mg mb f l vs ns e own₀ k
section
variable {prog : Program} {w : World} {K : Frag} {p : Program} {loose : List PySem.Str} {mean : ExcName → Option Value} {mg mb : PySem.Str → Option Value} {f l : Addr} {vs : List Value} {ns : List Int} {e : Nat} {own₀ : List (Addr × Obj)}
theorem in2_all (step : ∀ n, In2All prog w K p loose mean mg mb f l vs ns e own₀ n → In2 prog w K p loose mean mg mb f l vs ns e own₀ n) : ∀ n, In2All prog w K p loose mean mg mb f l vs ns e own₀ n := by
  intro n
  induction n with
  | zero => intro k h; exact absurd h (Nat.not_lt_zero _)
  | succ n ih => exact fun k h => if e : k < n then ih k e else (show k = n by omega) ▸ step n ih
theorem in2_use {n : Nat} {k : Nat} {dp un : Nat} {gd : Option (List Code)} {cn : PySem.Str} {cs : Scope} {a : Addr} {ccd : Value} {cl : List (PySem.Str × Addr)} {outer : List Env} {A₀ : Around} {base h₀ : Heap} {L : Addr} {m : PySem.Str → Option Value} {s : Shared} {Q E : Value → Shared → Prop}
    {own : List (Addr × Obj)} {lo hi : Int} {t2 t3 : Tok} (H : In2All prog w K p loose mean mg mb f l vs ns e own₀ n)
    (B : Below A₀ base outer h₀) (F : Fr h₀ L s.heap m) (X : K.In h₀) (N : News h₀ L s.heap own) (T : Top p loose mean mg mb h₀) (hk : cs.kind = .function)
    (h1 : ∀ q ∈ own₀, q ∈ own) (h4 : 0 ≤ lo) (h5 : hi - lo = (k : Int)) (h6 : 0 < k) (hkn : k < n) (h7 : hi ≤ ns.length) (hd : dp + k < recursionLimit) (hu : un + 8 * k < cLine)
    (ret : ∀ v t h' tk', Fr h₀ L h' m → News h₀ L h' own → 0 ≤ v → v < p2 (5 * k) → Q (.int v t) { s with heap := h', toks := tk' }) :
    wpAny (model prog w) (ktrTop dp un gd cn cs L a ccd cl outer) (call (.ref f) [.int lo t2, .int hi t3]) Q E s :=
  H k hkn _ _ _ _ _ _ _ _ _ _ _ _ _ _ _ _ _ _ _ _ _ _ B F X N T hk h1 h4 h5 h6 h7 hd hu ret
end

set_option maxRecDepth 100000 in
set_option maxHeartbeats 2000000 in
theorem digits2int {w : World} {p : Program} {loose : List PySem.Str} {mean : ExcName → Option Value} {mg mb : PySem.Str → Option Value}
   {dp un : Nat} {gd : Option (List Code)} {cn : PySem.Str} {cs : Scope} {a : Addr} {ccd : Value} {cl : List (PySem.Str × Addr)} {outer : List Env} {A₀ : Around} {base h₀ : Heap} {L : Addr} {m : PySem.Str → Option Value} {s : Shared} {Q E : Value → Shared → Prop}
   {rest : List (Addr × Obj)} {oA : Obj} {l : Addr} {vs : List Value} {ns : List Int} {e : Nat} {u : Tok}
    (B : Below A₀ base outer h₀) (F : Fr h₀ L s.heap m) (X : (hd.heap_1 w.params).In h₀) (N : News h₀ L s.heap ((37, oA) :: rest)) (T : Top p loose mean mg mb h₀) (hk : cs.kind = .function)
    (C : CodeHd base 41 37) (off : ∀ q ∈ rest, q.1 ≠ 37) (hA : oA = tabObj #[] ∨ TabF 47 4 "_digits2int.<locals>.inner" oA rest)
    (hl : (l, W.listOf vs.toArray e) ∈ rest) (hint : IntsAre vs ns) (hlen : ns.length ≤ 5) (hr : ∀ d ∈ ns, 0 ≤ d ∧ d < 32)
    (hdp : dp + 40 < recursionLimit) (hun : un + 300 < cLine)
    (ret : ∀ v t c1 oc1 vs1 tt h' tk', Fr h₀ L h' m → News h₀ L h' ((37, tabObj #[rawInt 47, rawInt 4, .ref c1]) :: (c1, oc1) :: rest) → oc1.data = .fields vs1 → vs1[1]? = some (.str "_digits2int.<locals>.inner" tt) →
      (TabF 47 4 "_digits2int.<locals>.inner" oA rest → oA = tabObj #[rawInt 47, rawInt 4, .ref c1]) → 0 ≤ v → v < 33554432 → Q (.int v t) { s with heap := h', toks := tk' }) :
    wpAny (model PySem.Challenge.rw_ic0006_01.row.prog w) (ktrTop dp un gd cn cs L a ccd cl outer) (call (.ref 42) [.ref l, .int 5 u]) Q E s := by
  refine wpAny_call ?_
  (refine' code_defC ?k1 ?k2 ?k3 ?k4 ?k5 ?kA ?kF ?kK ?k6 ?k7 ?k8 ?k9 ?kB ?kD ?_ ?c2 ?c3 ?c4; (case kA => exact rfl); (case kF => exact rfl); (case kK => assumption); (case k1 => k_asm); (case k2 => k_asm); (case k3 => k_asm); (case k4 => k_asm); (case k5 => k_asm); (case k6 => k_is); (case k7 => k_is); (case k8 => ktr_room); (case k9 => first | exact BindsTo.of_eq rfl | exact binds_K (by k_in) rfl (by k_is) rfl rfl rfl | fail "k_enter: no rule for these arguments"); (case kB => exact rfl); (case kD => decide +kernel); (case c2 => exact rfl); (case c3 => exact rfl); (case c4 => exact rfl); k_whole; intro g' L' h' tk' cells' FG' F' N' Y' B' X' T' l1; (try k_lt l1); (obtain ⟨o1', o2', o3', hE', d1', d2', d3'⟩ := CellsAre.three Y'); subst hE'; clear Y'; (try simp only [List.cons_append, List.nil_append] at N'); (try dsimp only); (try k_lift B'); (try k_fold))
  have hR := l1.2
  have hlL : l < L' := ktn_ltOf l1.2 _ hl
  replace d1' := (show _ = Data.cell none from d1')
  replace d2' := (show _ = Data.cell (some (.int 5 u)) from d2')
  replace d3' := (show _ = Data.cell (some (.ref l)) from d3')
  k_steps
  (refine' nestDef_K ?d0 ?k0 ?a0 ?_; (case d0 => exact rfl); (case k0 => exact rfl); (case a0 => exact rfl))
  (refine' nestAny ?F ?N ?T ?C ?cd ?c ?o ?h ?cl ?_; (case F => k_asm); (case N => k_asm); (case T => k_asm); (case cd => exact rfl); (case C => kn_code); (case c => walk_at "mycut"); (case o => k_all); (case h => exact hA.imp_right (fun x => TabF.mono x (by walk_at "mysub"))); (case cl => exact rfl); k_whole)
  intro f1 c1 oc1 vs1 tt1 ctv1 doc1 h1' tk1 F' N' hd1 hv1 hl1 hne hfull
  k_lt hl1
  dsimp only
  have hn3 := hne _ (.head _) (fun _ e => by rw [d1'] at e; cases e)
  have hn4 := hne _ (.tail _ (.head _)) (fun _ e => by rw [d2'] at e; cases e)
  have hn5 := hne _ (.tail _ (.tail _ (.head _))) (fun _ e => by rw [d3'] at e; cases e)
  clear hne
  dsimp only at hn3 hn4 hn5
  k_steps
  refine truthyL (by k_asm) (by k_mem) hint (by omega) ?_
  by_cases hpos : 0 < ns.length
  · rw [decide_eq_true hpos]
    k_steps
    refine' in2_use (n := ns.length + 1) (k := ns.length) (vs := vs) (ns := ns) (e := e) (l := l) (in2_all ?step _) ?kB ?kF ?kX ?kN ?kT ?kk ?i1 ?i4 ?i5 ?i6 ?i7 ?i8 ?id ?iu ?_
    case kB => k_asm
    case kF => k_asm
    case kX => k_asm
    case kN => k_asm
    case kT => k_asm
    case kk => exact rfl
    case i1 => exact fun _ h => h
    case i4 => decide
    case i5 => omega
    case i6 => exact hpos
    case i7 => omega
    case i8 => omega
    case id => ktr_room
    case iu => ktr_units
    case step =>
      intro k IH
      unfold In2
      intro dp un gd cn cs a ccd cl outer A₀ base h₀ L m s Q E own lo hi t2 t3 B F X N T hk hsub hlo hhi hkp hle hd hu ret
      refine wpAny_call ?_
      (refine' code_nest ?k1 ?k2 ?k3 ?k4 ?k5 ?kA ?kF ?kK ?k6 ?k7 ?k8 ?k9 ?kB ?_ ?c2 ?c3 ?c4 ?c5; (case kA => exact rfl); (case kF => exact rfl); (case kK => assumption); (case k1 => k_asm); (case k2 => k_asm); (case k3 => k_asm); (case k4 => k_asm); (case k5 => k_asm); (case k6 => k_mem); (case k7 => exact codeRec_news (by k_asm) (by k_mem) (by assumption) (by assumption)); (case k8 => ktr_room); (case k9 => exact BindsTo.of_eq rfl); (case c5 => decide); (case kB => exact locs rfl); (case c2 => exact rfl); (case c3 => exact rfl); (case c4 => exact rfl); k_whole; intro g' L' h' FG' F' N' B' X' T'; (try dsimp only); (try k_lift B'); (try k_fold))
      k_steps
      · have hk1 : k = 1 := by omega
        subst hk1
        have hg := get_lt hr (i := lo.toNat) (by omega)
        exact ret _ _ _ _ (by k_asm) (by k_asm) hg.1 hg.2
      · refine' in2_use IH ?kB ?kF ?kX ?kN ?kT ?kk ?i1 ?i4 ?i5 ?i6 ?i7 ?i8 ?id ?iu ?_
        case kB => k_asm
        case kF => k_asm
        case kX => k_asm
        case kN => k_asm
        case kT => k_asm
        case kk => exact rfl
        case i1 => exact hsub
        case i4 => omega
        case i5 => exact (Int.toNat_of_nonneg (by omega)).symm
        case i6 => omega
        case i7 => omega
        case i8 => omega
        case id => ktr_room
        case iu => ktr_units
        intro v9 t9 h9 tk9 F9 N9 hv9 hw9
        have hw9' := pow5 hw9 (by omega)
        k_steps
        refine' in2_use IH ?kB ?kF ?kX ?kN ?kT ?kk ?i1 ?i4 ?i5 ?i6 ?i7 ?i8 ?id ?iu ?_
        case kB => k_asm
        case kF => k_asm
        case kX => k_asm
        case kN => k_asm
        case kT => k_asm
        case kk => exact rfl
        case i1 => exact hsub
        case i4 => omega
        case i5 => exact (Int.toNat_of_nonneg (by omega)).symm
        case i6 => omega
        case i7 => omega
        case i8 => omega
        case id => ktr_room
        case iu => ktr_units
        intro v8 t8 h8 tk8 F8 N8 hv8 hw8
        k_steps
        with_reducible rename Fact (_ = _ * _) => hF
        have hj := join_lt (k := k) hv9 hw9 hv8 hw8 hF (by omega) (by omega)
        exact ret _ _ _ _ (by k_asm) (by k_asm) hj.1 hj.2
    · intro v9 t9 h9 tk9 F9 N9 hv9 hw9
      k_steps
      exact ret _ _ c1 oc1 vs1 _ _ _ (by k_asm) (cb_drop (by k_asm) (by walk_at "mysub")) hd1 hv1 (fun x => hfull (TabF.mono x (by walk_at "mysub"))) hv9 (pow5 hw9 hlen)
  · rw [decide_eq_false hpos]
    k_steps
    exact ret _ _ c1 oc1 vs1 _ _ _ (by k_asm) (cb_drop (by k_asm) (by walk_at "mysub")) hd1 hv1 (fun x => hfull (TabF.mono x (by walk_at "mysub"))) (by decide) (by decide)

set_option maxRecDepth 100000 in
set_option maxHeartbeats 2000000 in
theorem div2n1n {w : World} {p : Program} {loose : List PySem.Str} {mean : ExcName → Option Value} {mg mb : PySem.Str → Option Value}
   {dp un : Nat} {gd : Option (List Code)} {cn : PySem.Str} {cs : Scope} {a : Addr} {ccd : Value} {cl : List (PySem.Str × Addr)} {outer : List Env} {A₀ : Around} {base h₀ : Heap} {L : Addr} {m : PySem.Str → Option Value} {s : Shared} {Q E : Value → Shared → Prop}
   {rest : List (Addr × Obj)} {n : Int} {t u v : Tok}
    (B : Below A₀ base outer h₀) (F : Fr h₀ L s.heap m) (X : (hd.heap_1 w.params).In h₀) (N : News h₀ L s.heap rest) (T : Top p loose mean mg mb h₀) (hk : cs.kind = .function)
    (hdp : dp + 30 < recursionLimit) (hun : un + 200 < cLine) (h0 : 0 ≤ n) (h1 : n < 1024)
    (ret : ∀ q t1 t2 h' tk', Fr h₀ L h' m → News h₀ L h' ((q, { cls := .type "tuple", data := .seq #[.int (n / 17) t1, .int (n % 17) t2] }) :: rest) → (∀ p ∈ rest, p.1 < q) → Q (.ref q) { s with heap := h', toks := tk' }) :
    wpAny (model PySem.Challenge.rw_ic0006_01.row.prog w) (ktrTop dp un gd cn cs L a ccd cl outer) (call (.ref 21) [.int n t, .int 17 u, .int 5 v]) Q E s := by
  refine wpAny_call ?_
  (refine' code_def ?k1 ?k2 ?k3 ?k4 ?k5 ?kA ?kF ?kK ?k6 ?k7 ?k8 ?k9 ?kB ?_ ?c2 ?c3 ?c4 ?c5; (case kA => exact rfl); (case kF => exact rfl); (case kK => assumption); (case k1 => k_asm); (case k2 => k_asm); (case k3 => k_asm); (case k4 => k_asm); (case k5 => k_asm); (case k6 => k_is); (case k7 => k_is); (case k8 => ktr_room); (case k9 => exact BindsTo.of_eq rfl); (case c5 => decide); (case kB => exact locs rfl); (case c2 => exact rfl); (case c3 => exact rfl); (case c4 => exact rfl); k_whole; intro g' L' h' FG' F' N' B' X' T'; (try dsimp only); (try k_fold))
  have hbit : Builtin.Int.intBits n ≤ 64 := intBits_le (by omega)
  k_steps
  rename News h₀ _ _ _ => kN9
  have e1 : n.fdiv 17 = n / 17 := Int.fdiv_eq_ediv_of_nonneg _ (by decide)
  have e2 : n.fmod 17 = n % 17 := Int.fmod_eq_emod_of_nonneg _ (by decide)
  rw [e1, e2] at kN9
  exact ret _ _ _ _ _ (by k_asm) kN9 (fun q hq => Heap.lt_size (N' q hq).1)

local macro_rules | `(tactic| walk_at "call ref") => `(tactic| (k_here; (with_reducible show wpAny _ _ (call (Value.ref 21) _) _ _ _); k_dflt (refine' div2n1n ?B ?F ?X ?N ?T ?k ?d ?u ?h0 ?h1 ?_; (case B => k_asm); (case F => k_asm); (case X => k_asm); (case N => k_asm); (case T => k_asm); (case k => first | exact rfl | assumption); (case d => ktr_room); (case u => ktr_units); (case h0 => omega); (case h1 => omega)); intro q' t1' t2' h' tk' F' N' l1; (try k_lt l1); (try dsimp only); (try k_fold)))
set_option maxRecDepth 100000 in
set_option maxHeartbeats 2000000 in
theorem divmodpos {w : World} {p : Program} {loose : List PySem.Str} {mean : ExcName → Option Value} {mg mb : PySem.Str → Option Value}
   {dp un : Nat} {gd : Option (List Code)} {cn : PySem.Str} {cs : Scope} {a : Addr} {ccd : Value} {cl : List (PySem.Str × Addr)} {outer : List Env} {A₀ : Around} {base h₀ : Heap} {L : Addr} {m : PySem.Str → Option Value} {s : Shared} {Q E : Value → Shared → Prop}
   {rest : List (Addr × Obj)} {oA oB : Obj} {n : Int} {t u : Tok}
    (B : Below A₀ base outer h₀) (F : Fr h₀ L s.heap m) (X : (hd.heap_1 w.params).In h₀) (N : News h₀ L s.heap ((30, oA) :: (37, oB) :: rest)) (T : Top p loose mean mg mb h₀) (hk : cs.kind = .function)
    (C1 : CodeHd base 34 30) (C2 : CodeHd base 41 37) (off1 : ∀ q ∈ rest, q.1 ≠ 30) (off2 : ∀ q ∈ rest, q.1 ≠ 37)
    (hA : oA = tabObj #[] ∨ TabF 32 4 "_int2digits.<locals>.inner" oA rest) (hB : oB = tabObj #[] ∨ TabF 47 4 "_digits2int.<locals>.inner" oB rest)
    (hdp : dp + 60 < recursionLimit) (hun : un + 400 < cLine) (h0 : 0 ≤ n) (h1 : n < 33554432)
    (ret : ∀ q qq t1 t2 c1 oc1 vs1 tt1 c2 oc2 vs2 tt2 h' tk', Fr h₀ L h' m →
      News h₀ L h' ((q, { cls := .type "tuple", data := .seq #[.int qq t1, .int (n % 17) t2] }) :: (30, tabObj #[rawInt 32, rawInt 4, .ref c1]) :: (37, tabObj #[rawInt 47, rawInt 4, .ref c2]) :: (c1, oc1) :: (c2, oc2) :: rest) →
      oc1.data = .fields vs1 → vs1[1]? = some (.str "_int2digits.<locals>.inner" tt1) → oc2.data = .fields vs2 → vs2[1]? = some (.str "_digits2int.<locals>.inner" tt2) →
      (TabF 32 4 "_int2digits.<locals>.inner" oA rest → oA = tabObj #[rawInt 32, rawInt 4, .ref c1]) → (TabF 47 4 "_digits2int.<locals>.inner" oB rest → oB = tabObj #[rawInt 47, rawInt 4, .ref c2]) →
      0 ≤ qq → qq < 33554432 → Q (.ref q) { s with heap := h', toks := tk' }) :
    wpAny (model PySem.Challenge.rw_ic0006_01.row.prog w) (ktrTop dp un gd cn cs L a ccd cl outer) (call (.ref 49) [.int n t, .int 17 u]) Q E s := by
  w_top on
  refine wpAny_call ?_
  (refine' code_def ?k1 ?k2 ?k3 ?k4 ?k5 ?kA ?kF ?kK ?k6 ?k7 ?k8 ?k9 ?kB ?_ ?c2 ?c3 ?c4 ?c5; (case kA => exact rfl); (case kF => exact rfl); (case kK => assumption); (case k1 => k_asm); (case k2 => k_asm); (case k3 => k_asm); (case k4 => k_asm); (case k5 => k_asm); (case k6 => k_is); (case k7 => k_is); (case k8 => ktr_room); (case k9 => exact BindsTo.of_eq rfl); (case c5 => decide); (case kB => exact locs rfl); (case c2 => exact rfl); (case c3 => exact rfl); (case c4 => exact rfl); k_whole; intro g' L' h' FG' F' N' B' X' T'; (try dsimp only); (try k_fold))
  k_steps
  refine' int2digits ?B ?F ?X ?N ?T ?k ?C ?o ?A ?d ?u ?h0 ?h1 ?_
  case B => k_asm
  case F => k_asm
  case X => k_asm
  case N => exact news_front (by k_asm) (by walk_at "mycut")
  case T => k_asm
  case k => exact rfl
  case C => exact C1
  case o => k_all
  case A => exact tabAny_mono hA (by walk_at "mysub")
  case d => ktr_room
  case u => ktr_units
  case h0 => exact h0
  case h1 => exact h1
  intro la va c1 oc1 vc1 tt1 h35 tk35 F35 N35 hd1 hv1 hf1 lla hD
  k_lt lla
  obtain ⟨ds, hdi, hdl, hdr, hdv⟩ := hD
  have hR := lla.2
  have hne37 := code_ne_tab N35 (.tail _ (.tail _ (.head _))) (.tail _ (.tail _ (.tail _ (.head _)))) hd1 hv1 hB
  k_steps
  refine iter_revUnr (lo := W.listOf va.toArray 0) (vs := va) (by rfl) (by k_asm) (by k_asm) (offI_of (by k_all)) (by k_mem) (by rfl) (by rfl) ?_
  refine rev_ind (RInv n _ _ _) ?stop ?step _ _ _ (rinv_start rfl hdi hdl hdr hdv)
  case step =>
    rintro v r m1 news1 ⟨dl, qv, qn, e, V, tr, oq, oa, hld, hdr1, hqi, hqr, hqz, hV, hfo, rfl, rfl⟩ it h9 tk9 hit F9 N9
    cases hld with
    | cons d td hld' =>
    have hd9 := hdr1 _ (.head _)
    rw [List.length_cons] at hqz
    have hql := hqi.length
    k_steps
    refine' append_K ?kF ?kN ?kU ?_ ?kz
    case kF => k_asm
    case kN => k_asm
    case kU => k_upd
    case kz => rw [List.size_toArray, hql, sizeLine_eq]; omega
    intro h8 F8 N8
    rw [List.push_toArray] at N8
    k_steps
    refine' UnrEnd.intro (by k_asm) N8 _ ?usub ?uoff ⟨?umem, rinv_step hld' hdr1 hqi hqr hqz hV hfo ?uq0 ?uq1 ?urr⟩
    case usub => walk_at "mysub"
    case uoff => k_all
    case umem => k_mem
    case uq0 => omega
    case uq1 => omega
    case urr => omega
  case stop =>
    rintro m1 news1 ⟨dl, qv, qn, e, V, tr, oq, oa, hld, hdr1, hqi, hqr, hqz, hV, hfo, rfl, rfl⟩ h9 tk9 F9 N9
    cases hld
    have hql := hqi.length
    k_steps
    refine' kl_reverse ?kF ?kN ?ke ?kU ?kz ?_
    case kF => k_asm
    case kN => k_asm
    case ke => exact rfl
    case kU => k_upd
    case kz => show qv.length ≤ sizeLine; rw [sizeLine_eq]; rw [hql]; have := hqz; simp at this; omega
    intro h8 F8 N8
    k_steps
    refine' digits2int (vs := qv.reverse) (ns := qn.reverse) (e := e) ?gB ?gF ?gX ?gN ?gT ?gk ?gC ?go ?gA ?gl ?gi ?gz ?gr ?gd ?gu ?_
    case gB => k_asm
    case gF => k_asm
    case gX => k_asm
    case gN => exact news_front (by k_asm) (by walk_at "mycut")
    case gT => k_asm
    case gk => exact rfl
    case gC => exact C2
    case go => k_all
    case gA => exact tabAny_mono hB (by walk_at "mysub")
    case gl => k_mem
    case gi => exact ints_rev hqi
    case gz => rw [List.length_reverse]; simpa using hqz
    case gr => exact fun d hd => hqr d (List.mem_reverse.mp hd)
    case gd => ktr_room
    case gu => ktr_units
    intro v7 t7 c2 oc2 vc2 tt2 h7 tk7 F7 N7 hd2 hv2 hf2 hv70 hv71
    k_steps
    have hVn : V = n := hfo
    subst hVn
    exact ret _ _ _ _ c1 oc1 _ _ c2 oc2 _ _ _ _ (by k_asm) (cb_drop (by k_asm) (by walk_at "mysub")) hd1 hv1 hd2 hv2 (fun x => hf1 (TabF.mono x (by walk_at "mysub"))) (fun x => hf2 (TabF.mono x (by walk_at "mysub"))) hv70 hv71

set_option maxRecDepth 100000 in
set_option maxHeartbeats 2000000 in
theorem intdivmod0 {w : World} {p : Program} {loose : List PySem.Str} {mean : ExcName → Option Value} {mg mb : PySem.Str → Option Value}
   {dp un : Nat} {gd : Option (List Code)} {cn : PySem.Str} {cs : Scope} {a : Addr} {ccd : Value} {cl : List (PySem.Str × Addr)} {outer : List Env} {A₀ : Around} {base h₀ : Heap} {L : Addr} {m : PySem.Str → Option Value} {s : Shared} {Q E : Value → Shared → Prop}
   {rest : List (Addr × Obj)} {oA oB : Obj} {n : Int} {t u : Tok}
    (B : Below A₀ base outer h₀) (F : Fr h₀ L s.heap m) (X : (hd.heap_1 w.params).In h₀) (N : News h₀ L s.heap ((30, oA) :: (37, oB) :: rest)) (T : Top p loose mean mg mb h₀) (hk : cs.kind = .function)
    (C1 : CodeHd base 34 30) (C2 : CodeHd base 41 37) (off1 : ∀ q ∈ rest, q.1 ≠ 30) (off2 : ∀ q ∈ rest, q.1 ≠ 37)
    (hA : oA = tabObj #[] ∨ TabF 32 4 "_int2digits.<locals>.inner" oA rest) (hB : oB = tabObj #[] ∨ TabF 47 4 "_digits2int.<locals>.inner" oB rest)
    (hdp : dp + 70 < recursionLimit) (hun : un + 450 < cLine) (h0 : 0 ≤ n) (h1 : n < 33554432)
    (ret : ∀ q qq t1 t2 c1 oc1 vs1 tt1 c2 oc2 vs2 tt2 h' tk', Fr h₀ L h' m →
      News h₀ L h' ((q, { cls := .type "tuple", data := .seq #[.int qq t1, .int (n % 17) t2] }) :: (30, tabObj #[rawInt 32, rawInt 4, .ref c1]) :: (37, tabObj #[rawInt 47, rawInt 4, .ref c2]) :: (c1, oc1) :: (c2, oc2) :: rest) →
      oc1.data = .fields vs1 → vs1[1]? = some (.str "_int2digits.<locals>.inner" tt1) → oc2.data = .fields vs2 → vs2[1]? = some (.str "_digits2int.<locals>.inner" tt2) →
      (TabF 32 4 "_int2digits.<locals>.inner" oA rest → oA = tabObj #[rawInt 32, rawInt 4, .ref c1]) → (TabF 47 4 "_digits2int.<locals>.inner" oB rest → oB = tabObj #[rawInt 47, rawInt 4, .ref c2]) →
      Q (.ref q) { s with heap := h', toks := tk' }) :
    wpAny (model PySem.Challenge.rw_ic0006_01.row.prog w) (ktrTop dp un gd cn cs L a ccd cl outer) (call (.ref 56) [.int n t, .int 17 u]) Q E s := by
  w_top off
  walk_at "myenter"
  k_steps
  refine' divmodpos ?gB ?gF ?gX ?gN ?gT ?gk ?gC ?gc ?go ?gq ?gA ?gb ?gd ?gu h0 h1 ?_
  case gB => k_asm
  case gF => k_asm
  case gX => k_asm
  case gN => exact news_front2 (by k_asm) (by walk_at "mycut") (by walk_at "mycut")
  case gT => k_asm
  case gk => exact rfl
  case gC => exact C1
  case gc => exact C2
  case go => k_all
  case gq => k_all
  case gA => exact tabAny_mono hA (by walk_at "mysub")
  case gb => exact tabAny_mono hB (by walk_at "mysub")
  case gd => ktr_room
  case gu => ktr_units
  intro q qq t1 t2 c1 oc1 vc1 tt1 c2 oc2 vc2 tt2 h7 tk7 F7 N7 hd1 hv1 hd2 hv2 hf1 hf2 hq0 hq1
  k_steps
  exact ret _ _ _ _ c1 oc1 _ _ c2 oc2 _ _ _ _ (by k_asm) (cb_drop (by k_asm) (by walk_at "mysub")) hd1 hv1 hd2 hv2 (fun x => hf1 (TabF.mono x (by walk_at "mysub"))) (fun x => hf2 (TabF.mono x (by walk_at "mysub")))

set_option maxRecDepth 100000 in
set_option maxHeartbeats 2000000 in
theorem intdivmod {w : World} {p : Program} {loose : List PySem.Str} {mean : ExcName → Option Value} {mg mb : PySem.Str → Option Value}
   {dp un : Nat} {gd : Option (List Code)} {cn : PySem.Str} {cs : Scope} {a : Addr} {ccd : Value} {cl : List (PySem.Str × Addr)} {outer : List Env} {A₀ : Around} {base h₀ : Heap} {L : Addr} {m : PySem.Str → Option Value} {s : Shared} {Q E : Value → Shared → Prop}
   {rest : List (Addr × Obj)} {oA oB : Obj} {n : Int} {t u : Tok}
    (B : Below A₀ base outer h₀) (F : Fr h₀ L s.heap m) (X : (hd.heap_1 w.params).In h₀) (N : News h₀ L s.heap ((30, oA) :: (37, oB) :: rest)) (T : Top p loose mean mg mb h₀) (hk : cs.kind = .function)
    (C1 : CodeHd base 34 30) (C2 : CodeHd base 41 37) (off1 : ∀ q ∈ rest, q.1 ≠ 30) (off2 : ∀ q ∈ rest, q.1 ≠ 37)
    (hA : oA = tabObj #[] ∨ TabF 32 4 "_int2digits.<locals>.inner" oA rest) (hB : oB = tabObj #[] ∨ TabF 47 4 "_digits2int.<locals>.inner" oB rest)
    (hdp : dp + 80 < recursionLimit) (hun : un + 500 < cLine) (h0 : -33554432 ≤ n) (h1 : n < 33554432)
    (ret : ∀ q qq t1 t2 c1 oc1 vs1 tt1 c2 oc2 vs2 tt2 h' tk', Fr h₀ L h' m →
      News h₀ L h' ((q, { cls := .type "tuple", data := .seq #[.int qq t1, .int (n % 17) t2] }) :: (30, tabObj #[rawInt 32, rawInt 4, .ref c1]) :: (37, tabObj #[rawInt 47, rawInt 4, .ref c2]) :: (c1, oc1) :: (c2, oc2) :: rest) →
      oc1.data = .fields vs1 → vs1[1]? = some (.str "_int2digits.<locals>.inner" tt1) → oc2.data = .fields vs2 → vs2[1]? = some (.str "_digits2int.<locals>.inner" tt2) →
      (TabF 32 4 "_int2digits.<locals>.inner" oA rest → oA = tabObj #[rawInt 32, rawInt 4, .ref c1]) → (TabF 47 4 "_digits2int.<locals>.inner" oB rest → oB = tabObj #[rawInt 47, rawInt 4, .ref c2]) →
      Q (.ref q) { s with heap := h', toks := tk' }) :
    wpAny (model PySem.Challenge.rw_ic0006_01.row.prog w) (ktrTop dp un gd cn cs L a ccd cl outer) (call (.ref 56) [.int n t, .int 17 u]) Q E s := by
  by_cases hneg : 0 ≤ n
  · exact intdivmod0 B F X N T hk C1 C2 off1 off2 hA hB (by omega) (by omega) hneg h1 ret
  walk_at "myenter"
  k_steps
  have hbn : Builtin.bitNot n = -n - 1 := rfl
  rw [hbn]
  refine' intdivmod0 ?gB ?gF ?gX ?gN ?gT ?gk ?gC ?gc ?go ?gq ?gA ?gb ?gd ?gu (by omega) (by omega) ?_
  case gB => k_asm
  case gF => k_asm
  case gX => k_asm
  case gN => exact news_front2 (by k_asm) (by walk_at "mycut") (by walk_at "mycut")
  case gT => k_asm
  case gk => exact rfl
  case gC => exact C1
  case gc => exact C2
  case go => k_all
  case gq => k_all
  case gA => exact tabAny_mono hA (by walk_at "mysub")
  case gb => exact tabAny_mono hB (by walk_at "mysub")
  case gd => ktr_room
  case gu => ktr_units
  intro q qq t1 t2 c1 oc1 vc1 tt1 c2 oc2 vc2 tt2 h7 tk7 F7 N7 hd1 hv1 hd2 hv2 hf1 hf2
  k_steps
  rename News h₀ _ _ _ => kN9
  have e9 : (17 : Int) + Builtin.bitNot ((-n - 1) % 17) = n % 17 := by show (17 : Int) + (-((-n - 1) % 17) - 1) = n % 17; omega
  rw [e9] at kN9
  exact ret _ _ _ _ c1 oc1 _ _ c2 oc2 _ _ _ _ (by k_asm) (cb_drop kN9 (by walk_at "mysub")) hd1 hv1 hd2 hv2 (fun x => hf1 (TabF.mono x (by walk_at "mysub"))) (fun x => hf2 (TabF.mono x (by walk_at "mysub")))

set_option maxRecDepth 100000 in
set_option maxHeartbeats 2000000 in
theorem lawrest0 {w : World} {p : Program} {loose : List PySem.Str} {mean : ExcName → Option Value} {mg mb : PySem.Str → Option Value}
   {dp un : Nat} {gd : Option (List Code)} {cn : PySem.Str} {cs : Scope} {a : Addr} {ccd : Value} {cl : List (PySem.Str × Addr)} {outer : List Env} {A₀ : Around} {base h₀ : Heap} {L : Addr} {m : PySem.Str → Option Value} {s : Shared} {Q E : Value → Shared → Prop}
   {rest : List (Addr × Obj)} {oA oB : Obj} {n : Int} {t : Tok}
    (B : Below A₀ base outer h₀) (F : Fr h₀ L s.heap m) (X : (hd.heap_1 w.params).In h₀) (N : News h₀ L s.heap ((30, oA) :: (37, oB) :: rest)) (T : Top p loose mean mg mb h₀) (hk : cs.kind = .function)
    (C1 : CodeHd base 34 30) (C2 : CodeHd base 41 37) (off1 : ∀ q ∈ rest, q.1 ≠ 30) (off2 : ∀ q ∈ rest, q.1 ≠ 37)
    (hA : oA = tabObj #[] ∨ TabF 32 4 "_int2digits.<locals>.inner" oA rest) (hB : oB = tabObj #[] ∨ TabF 47 4 "_digits2int.<locals>.inner" oB rest)
    (hdp : dp + 90 < recursionLimit) (hun : un + 550 < cLine) (h0 : -33554432 ≤ n) (h1 : n < 33554432)
    (ret : ∀ t' c1 oc1 vs1 tt1 c2 oc2 vs2 tt2 h' tk', Fr h₀ L h' m →
      News h₀ L h' ((30, tabObj #[rawInt 32, rawInt 4, .ref c1]) :: (37, tabObj #[rawInt 47, rawInt 4, .ref c2]) :: (c1, oc1) :: (c2, oc2) :: rest) →
      oc1.data = .fields vs1 → vs1[1]? = some (.str "_int2digits.<locals>.inner" tt1) → oc2.data = .fields vs2 → vs2[1]? = some (.str "_digits2int.<locals>.inner" tt2) →
      (TabF 32 4 "_int2digits.<locals>.inner" oA rest → oA = tabObj #[rawInt 32, rawInt 4, .ref c1]) → (TabF 47 4 "_digits2int.<locals>.inner" oB rest → oB = tabObj #[rawInt 47, rawInt 4, .ref c2]) →
      Q (.int (n % 17) t') { s with heap := h', toks := tk' }) :
    wpAny (model PySem.Challenge.rw_ic0006_01.row.prog w) (ktrTop dp un gd cn cs L a ccd cl outer) (call (.ref 70) [.int n t]) Q E s := by
  walk_at "myenter"
  k_steps
  refine' intdivmod ?gB ?gF ?gX ?gN ?gT ?gk ?gC ?gc ?go ?gq ?gA ?gb ?gd ?gu h0 h1 ?_
  case gB => k_asm
  case gF => k_asm
  case gX => k_asm
  case gN => exact news_front2 (by k_asm) (by walk_at "mycut") (by walk_at "mycut")
  case gT => k_asm
  case gk => exact rfl
  case gC => exact C1
  case gc => exact C2
  case go => k_all
  case gq => k_all
  case gA => exact tabAny_mono hA (by walk_at "mysub")
  case gb => exact tabAny_mono hB (by walk_at "mysub")
  case gd => ktr_room
  case gu => ktr_units
  intro q qq t1 t2 c1 oc1 vc1 tt1 c2 oc2 vc2 tt2 h7 tk7 F7 N7 hd1 hv1 hd2 hv2 hf1 hf2
  k_steps
  exact ret _ c1 oc1 _ _ c2 oc2 _ _ _ _ (by k_asm) (cb_drop (by k_asm) (by walk_at "mysub")) hd1 hv1 hd2 hv2 (fun x => hf1 (TabF.mono x (by walk_at "mysub"))) (fun x => hf2 (TabF.mono x (by walk_at "mysub")))

theorem tabF_filter {h₀ h : Heap} {L : Addr} {o : Obj} {line col : Nat} {qual : PySem.Str} {news : List (Addr × Obj)} {f : Addr × Obj → Bool} (N : News h₀ L h news) (x : TabF line col qual o news) (hf : ∀ c oc vs t, (c, oc) ∈ news → oc.data = .fields vs → vs[1]? = some (.str qual t) → f (c, oc) = true) :
    TabF line col qual o (news.filter f) :=
  let ⟨c, oc, vs, t, e, hm, hd, hv⟩ := x; ⟨c, oc, vs, t, e, List.mem_filter.mpr ⟨hm, hf c oc vs t hm hd hv⟩, hd, hv⟩
theorem lawrest {w : World} {p : Program} {loose : List PySem.Str} {mean : ExcName → Option Value} {mg mb : PySem.Str → Option Value}
   {dp un : Nat} {gd : Option (List Code)} {cn : PySem.Str} {cs : Scope} {a : Addr} {ccd : Value} {cl : List (PySem.Str × Addr)} {outer : List Env} {A₀ : Around} {base h₀ : Heap} {L : Addr} {m : PySem.Str → Option Value} {s : Shared} {Q E : Value → Shared → Prop}
   {news : List (Addr × Obj)} {n : Int} {t : Tok}
    (B : Below A₀ base outer h₀) (F : Fr h₀ L s.heap m) (X : (hd.heap_1 w.params).In h₀) (N : News h₀ L s.heap news) (T : Top p loose mean mg mb h₀) (hk : cs.kind = .function)
    (C1 : CodeHd base 34 30) (C2 : CodeHd base 41 37) (hT : FullIn news)
    (hdp : dp + 90 < recursionLimit) (hun : un + 550 < cLine) (h0 : -33554432 ≤ n) (h1 : n < 33554432)
    (ret : ∀ t' h' tk', Fr h₀ L h' m → News h₀ L h' news → Q (.int (n % 17) t') { s with heap := h', toks := tk' }) :
    wpAny (model PySem.Challenge.rw_ic0006_01.row.prog w) (ktrTop dp un gd cn cs L a ccd cl outer) (call (.ref 70) [.int n t]) Q E s := by
  obtain ⟨oA, oB, hmA, hmB, hA, hB⟩ := hT
  have fA : ∀ c oc vs t qual, (c, oc) ∈ news → oc.data = .fields vs → vs[1]? = some (.str qual t) → (decide (c ≠ 30) && decide (c ≠ 37)) = true := fun c oc vs t qual hm hd hv => by
    have e1 := code_ne_tab N hm hmA hd hv (.inr hA)
    have e2 := code_ne_tab N hm hmB hd hv (.inr hB)
    simp only [Bool.and_eq_true, decide_eq_true_eq]
    exact ⟨e1, e2⟩
  have hA' := tabF_filter (f := fun p => decide (p.1 ≠ 30) && decide (p.1 ≠ 37)) N hA fun c oc vs t hm hd hv => fA c oc vs t _ hm hd hv
  have hB' := tabF_filter (f := fun p => decide (p.1 ≠ 30) && decide (p.1 ≠ 37)) N hB fun c oc vs t hm hd hv => fA c oc vs t _ hm hd hv
  refine lawrest0 (rest := news.filter fun p => decide (p.1 ≠ 30) && decide (p.1 ≠ 37)) B F X (fun q hq => ?_) T hk C1 C2 (fun q hq => ?_) (fun q hq => ?_) (.inr hA') (.inr hB') hdp hun h0 h1 ?_
  · rcases List.mem_cons.mp hq with rfl | hq
    · exact N _ hmA
    · rcases List.mem_cons.mp hq with rfl | hq
      · exact N _ hmB
      · exact N _ (List.mem_filter.mp hq).1
  · have := (List.mem_filter.mp hq).2
    simp only [Bool.and_eq_true, decide_eq_true_eq] at this
    exact this.1
  · have := (List.mem_filter.mp hq).2
    simp only [Bool.and_eq_true, decide_eq_true_eq] at this
    exact this.2
  · intro t' c1 oc1 vs1 tt1 c2 oc2 vs2 tt2 h' tk' F' N' hd1 hv1 hd2 hv2 hf1 hf2
    refine ret t' h' tk' F' fun q hq => ?_
    have eA := hf1 hA'
    have eB := hf2 hB'
    by_cases q1 : q.1 = 30
    · have g1 := (N _ hq).1
      have g2 := (N _ hmA).1
      rw [q1] at g1
      dsimp only at g2
      rw [g2] at g1
      have e : q.2 = oA := (Option.some.inj g1).symm
      have : q = (30, oA) := Prod.ext q1 e
      rw [this, eA]
      exact N' _ (.head _)
    · by_cases q2 : q.1 = 37
      · have g1 := (N _ hq).1
        have g2 := (N _ hmB).1
        rw [q2] at g1
        dsimp only at g2
        rw [g2] at g1
        have e : q.2 = oB := (Option.some.inj g1).symm
        have : q = (37, oB) := Prod.ext q2 e
        rw [this, eB]
        exact N' _ (.tail _ (.head _))
      · exact N' _ (.tail _ (.tail _ (.tail _ (.tail _ (List.mem_filter.mpr ⟨hq, by simp only [Bool.and_eq_true, decide_eq_true_eq]; exact ⟨q1, q2⟩⟩)))))

local macro_rules | `(tactic| walk_at "myfull") => `(tactic| (refine' FullIn.mono ?ma ?mb; (case ma => assumption); (case mb => walk_at "mysub")))
local macro_rules | `(tactic| walk_at "call ref") => `(tactic| (k_here; (with_reducible show wpAny _ _ (call (Value.ref 70) _) _ _ _); k_dflt (refine' lawrest ?gB ?gF ?gX ?gN ?gT ?gk ?gC ?gc ?gf ?gd ?gu ?g0 ?g1 ?_; (case gB => k_asm); (case gF => k_asm); (case gX => k_asm); (case gN => k_asm); (case gT => k_asm); (case gk => first | exact rfl | assumption); (case gC => kn_code); (case gc => kn_code); (case gf => walk_at "myfull"); (case gd => ktr_room); (case gu => ktr_units); (case g0 => walk_at "mybound"); (case g1 => walk_at "mybound")); intro t9 h9 tk9 F9 N9; (try dsimp only); (try k_fold)))
local macro_rules | `(tactic| walk_at "mybound") => `(tactic| first | omega | assumption)
section
local macro_rules | `(tactic| omega) => `(tactic| exact bidxZ (by assumption))
set_option maxRecDepth 100000 in
set_option maxHeartbeats 2000000 in
theorem lawat {w : World} {p : Program} {loose : List PySem.Str} {mean : ExcName → Option Value} {mg mb : PySem.Str → Option Value}
   {dp un : Nat} {gd : Option (List Code)} {cn : PySem.Str} {cs : Scope} {a : Addr} {ccd : Value} {cl : List (PySem.Str × Addr)} {outer : List Env} {A₀ : Around} {base h₀ : Heap} {L : Addr} {m : PySem.Str → Option Value} {s : Shared} {Q E : Value → Shared → Prop}
   {news : List (Addr × Obj)} {b : Array UInt8} {r0 r1 r2 r3 root : Int} {t u : Tok}
    (B : Below A₀ base outer h₀) (F : Fr h₀ L s.heap m) (X : (hd.heap_1 w.params).In h₀) (N : News h₀ L s.heap news) (T : Top p loose mean mg mb h₀) (hk : cs.kind = .function)
    (C1 : CodeHd base 34 30) (C2 : CodeHd base 41 37) (hT : FullIn news)
    (hdp : dp + 120 < recursionLimit) (hun : un + 700 < cLine) (hb : KBw.bInts b = [r0, r1, r2, r3]) (g0 : 0 ≤ r0 ∧ r0 < 17) (g1 : 0 ≤ r1 ∧ r1 < 17) (g2 : 0 ≤ r2 ∧ r2 < 17) (g3 : 0 ≤ r3 ∧ r3 < 17) (hr : 0 ≤ root ∧ root < 17)
    (ret : ∀ t' h' tk', Fr h₀ L h' m → News h₀ L h' news → Q (.int (at_val r0 r1 r2 r3 root % 17) t') { s with heap := h', toks := tk' }) :
    wpAny (model PySem.Challenge.rw_ic0006_01.row.prog w) (ktrTop dp un gd cn cs L a ccd cl outer) (call (.ref 85) [.bytes b t, .int root u]) Q E s := by
  walk_at "myenterC"
  k_steps
  rw [lawat_sum g0 g1 g2 g3]
  have hbd := at_bound g0 g1 g2 g3 hr
  k_steps
  exact ret _ _ _ (by k_asm) (cb_drop (by k_asm) (by walk_at "mysub"))

end
local macro_rules | `(tactic| walk_at "call ref") => `(tactic| (k_here; (with_reducible show wpAny _ _ (call (Value.ref 85) _) _ _ _); k_dflt (refine' lawat ?gB ?gF ?gX ?gN ?gT ?gk ?gC ?gc ?gf ?gd ?gu ?gb ?g0 ?g1 ?g2 ?g3 ?gr ?_; (case gB => k_asm); (case gF => k_asm); (case gX => k_asm); (case gN => k_asm); (case gT => k_asm); (case gk => first | exact rfl | assumption); (case gC => kn_code); (case gc => kn_code); (case gf => walk_at "myfull"); (case gd => ktr_room); (case gu => ktr_units); (case gb => assumption); (case g0 => walk_at "myrange"); (case g1 => walk_at "myrange"); (case g2 => walk_at "myrange"); (case g3 => walk_at "myrange"); (case gr => walk_at "myroot")); intro t9 h9 tk9 F9 N9; (try dsimp only); (try k_fold)))
local macro_rules | `(tactic| walk_at "myrange") => `(tactic| first | assumption | omega)
local macro_rules | `(tactic| walk_at "myroot") => `(tactic| first | assumption | omega)
set_option maxRecDepth 100000 in
set_option maxHeartbeats 2000000 in
theorem lawproduct {w : World} {p : Program} {loose : List PySem.Str} {mean : ExcName → Option Value} {mg mb : PySem.Str → Option Value}
   {dp un : Nat} {gd : Option (List Code)} {cn : PySem.Str} {cs : Scope} {a : Addr} {ccd : Value} {cl : List (PySem.Str × Addr)} {outer : List Env} {A₀ : Around} {base h₀ : Heap} {L : Addr} {m : PySem.Str → Option Value} {s : Shared} {Q E : Value → Shared → Prop}
   {news : List (Addr × Obj)} {b : Array UInt8} {r0 r1 r2 r3 : Int} {t : Tok}
    (B : Below A₀ base outer h₀) (F : Fr h₀ L s.heap m) (X : (hd.heap_1 w.params).In h₀) (N : News h₀ L s.heap news) (T : Top p loose mean mg mb h₀) (hk : cs.kind = .function)
    (C1 : CodeHd base 34 30) (C2 : CodeHd base 41 37) (hT : FullIn news)
    (hdp : dp + 150 < recursionLimit) (hun : un + 900 < cLine) (hb : KBw.bInts b = [r0, r1, r2, r3]) (g0 : 0 ≤ r0 ∧ r0 < 17) (g1 : 0 ≤ r1 ∧ r1 < 17) (g2 : 0 ≤ r2 ∧ r2 < 17) (g3 : 0 ≤ r3 ∧ r3 < 17)
    (ret : ∀ t' h' tk', Fr h₀ L h' m → News h₀ L h' news → Q (.int (prod_val r0 r1 r2 r3) t') { s with heap := h', toks := tk' }) :
    wpAny (model PySem.Challenge.rw_ic0006_01.row.prog w) (ktrTop dp un gd cn cs L a ccd cl outer) (call (.ref 97) [.bytes b t]) Q E s := by
  walk_at "myenter"
  k_steps
  (rename Fr _ _ _ _ => lF')
  (rename News _ _ _ _ => lN')
  try simp only [List.cons_append, List.nil_append] at lN'
  with_unfolding_all refine iter_listUnr (lo := _) (vs := [.int 1 _, .int 4 _, .int 16 _, .int 13 _]) (by rfl) lF' lN' (.head _) (by rfl) (by rfl) ?_
  intro i' l1
  have b1 := mul_le (a := 1) (b := at_val r0 r1 r2 r3 1 % 17) (A := 16) (B := 16) (by omega) (by omega) (by omega) (by omega)
  have b2 := mul_le (a := 1 * (at_val r0 r1 r2 r3 1 % 17) % 17) (b := at_val r0 r1 r2 r3 4 % 17) (A := 16) (B := 16) (by omega) (by omega) (by omega) (by omega)
  have b3 := mul_le (a := 1 * (at_val r0 r1 r2 r3 1 % 17) % 17 * (at_val r0 r1 r2 r3 4 % 17) % 17) (b := at_val r0 r1 r2 r3 16 % 17) (A := 16) (B := 16) (by omega) (by omega) (by omega) (by omega)
  have b4 := mul_le (a := 1 * (at_val r0 r1 r2 r3 1 % 17) % 17 * (at_val r0 r1 r2 r3 4 % 17) % 17 * (at_val r0 r1 r2 r3 16 % 17) % 17) (b := at_val r0 r1 r2 r3 13 % 17) (A := 16) (B := 16) (by omega) (by omega) (by omega) (by omega)
  refine ListRest.succ (fun it1 h1 tk1 hit1 F1 N1 => ?_)
  k_steps
  refine UnrEnd.intro (by k_asm) (by k_asm) (_ :: news) (by walk_at "mysub") (fun p hp => Nat.ne_of_lt (l1 p hp)) ⟨.head _, ?_⟩
  refine ListRest.succ (fun it2 h2 tk2 hit2 F2 N2 => ?_)
  k_steps
  refine UnrEnd.intro (by k_asm) (by k_asm) (_ :: news) (by walk_at "mysub") (fun p hp => Nat.ne_of_lt (l1 p hp)) ⟨.head _, ?_⟩
  refine ListRest.succ (fun it3 h3 tk3 hit3 F3 N3 => ?_)
  k_steps
  refine UnrEnd.intro (by k_asm) (by k_asm) (_ :: news) (by walk_at "mysub") (fun p hp => Nat.ne_of_lt (l1 p hp)) ⟨.head _, ?_⟩
  refine ListRest.succ (fun it4 h4 tk4 hit4 F4 N4 => ?_)
  k_steps
  refine UnrEnd.intro (by k_asm) (by k_asm) (_ :: news) (by walk_at "mysub") (fun p hp => Nat.ne_of_lt (l1 p hp)) ⟨.head _, ?_⟩
  refine ListRest.zero (fun h5 tk5 F5 N5 => ?_)
  k_steps
  exact ret _ _ _ (by k_asm) (cb_drop (by k_asm) (by walk_at "mysub"))

set_option maxRecDepth 100000 in
set_option maxHeartbeats 2000000 in
theorem lawround {w : World} {p : Program} {loose : List PySem.Str} {mean : ExcName → Option Value} {mg mb : PySem.Str → Option Value}
   {dp un : Nat} {gd : Option (List Code)} {cn : PySem.Str} {cs : Scope} {a : Addr} {ccd : Value} {cl : List (PySem.Str × Addr)} {outer : List Env} {A₀ : Around} {base h₀ : Heap} {L : Addr} {m : PySem.Str → Option Value} {s : Shared} {Q E : Value → Shared → Prop}
   {news : List (Addr × Obj)} {b bo : Array UInt8} {r0 r1 r2 r3 o0 o1 o2 o3 : Int} {t u : Tok}
    (B : Below A₀ base outer h₀) (F : Fr h₀ L s.heap m) (X : (hd.heap_1 w.params).In h₀) (N : News h₀ L s.heap news) (T : Top p loose mean mg mb h₀) (hk : cs.kind = .function)
    (C1 : CodeHd base 34 30) (C2 : CodeHd base 41 37) (hT : FullIn news)
    (hdp : dp + 150 < recursionLimit) (hun : un + 900 < cLine) (hb : KBw.bInts b = [r0, r1, r2, r3]) (g0 : 0 ≤ r0 ∧ r0 < 17) (g1 : 0 ≤ r1 ∧ r1 < 17) (g2 : 0 ≤ r2 ∧ r2 < 17) (g3 : 0 ≤ r3 ∧ r3 < 17) (hbo : KBw.bInts bo = [o0, o1, o2, o3]) (i0 : 0 ≤ o0 ∧ o0 < 17) (i1 : 0 ≤ o1 ∧ o1 < 17) (i2 : 0 ≤ o2 ∧ o2 < 17) (i3 : 0 ≤ o3 ∧ o3 < 17)
    (ret : ∀ b' t' h' tk', Fr h₀ L h' m → News h₀ L h' news → KBw.bInts b' = round_val r0 r1 r2 r3 o0 o1 o2 o3 → Q (.bytes b' t') { s with heap := h', toks := tk' }) :
    wpAny (model PySem.Challenge.rw_ic0006_01.row.prog w) (ktrTop dp un gd cn cs L a ccd cl outer) (call (.ref 90) [.bytes b t, .bytes bo u]) Q E s := by
  walk_at "myenterC"
  k_steps
  refine listCompX (by k_asm) (by rfl) (by intro _; rfl) (by intro _; rfl) (by rfl) (by decide) (by rfl) ?_
  k_steps
  refine SrcOk.range (by rfl) (by k_asm) (by k_asm) (by assumption) (by first | decide | rfl) (by first | rfl | decide) (by first | size_fits | exact Nat.le_of_ble_eq_true rfl) ⟨IInv (fun i => (round_val r0 r1 r2 r3 o0 o1 o2 o3).getD i 0) _, IInv.start, IInv.len, ?turn, ?fin⟩
  case turn =>
    intro i ys nw v I oI C oC oX D h9 tk9 E9 hi hP hI hX F9 N9 off9 hlt9 hS
    obtain ⟨t9, rfl⟩ := hP
    have hsub := hI.1
    try simp only [List.cons_append, List.nil_append] at N9
    k_steps
    have hi4 : i < 4 := hi
    rw [round_sum g0 g1 g2 g3 i0 i1 i2 i3 hi4]
    have hbd := round_bound g0 g1 g2 g3 i0 i1 i2 i3 hi4
    k_steps
    refine TurnEnd.same (by k_asm) (by k_asm) (by simp only [List.cons_append, List.nil_append]; walk_at "mysub") off9 trivial (IInv.step hI (fun _ h => h) ?_)
    rw [round_num_val hi4]
    rw [Int.fmod_eq_emod_of_nonneg _ (by decide)]
    omega
  case fin =>
    intro D ys nw h9 tk9 hI F9 N9 off9
    have hR : IntsAre ys (round_val r0 r1 r2 r3 o0 o1 o2 o3) := hI.2
    have hRI : KBa.In (round_val r0 r1 r2 r3 o0 o1 o2 o3) := fun n hn => ⟨(round_in n hn).1, Int.lt_trans (round_in n hn).2 (by decide)⟩
    have hlD := N9.isList (.head _)
    k_steps
    refine KBa.make_K (by k_asm) (by k_asm) rfl hlD hR hRI (by show 4 ≤ 16777216; omega) ?_
    intro h8 t8 k8 F8 N8 _
    k_steps
    exact ret _ _ _ _ (by k_asm) (cb_drop (by k_asm) (by intro q hq; exact .tail _ (hI.1 q (.tail _ (.tail _ hq))))) (KBa.ints_make hRI)

set_option maxRecDepth 100000 in
set_option maxHeartbeats 2000000 in
theorem lawtable {w : World} {p : Program} {loose : List PySem.Str} {mean : ExcName → Option Value} {mg mb : PySem.Str → Option Value}
   {dp un : Nat} {gd : Option (List Code)} {cn : PySem.Str} {cs : Scope} {a : Addr} {ccd : Value} {cl : List (PySem.Str × Addr)} {outer : List Env} {A₀ : Around} {base h₀ : Heap} {L : Addr} {m : PySem.Str → Option Value} {s : Shared} {Q E : Value → Shared → Prop}
   {news : List (Addr × Obj)} {b : Array UInt8} {r0 r1 r2 r3 : Int} {t : Tok}
    (B : Below A₀ base outer h₀) (F : Fr h₀ L s.heap m) (X : (hd.heap_1 w.params).In h₀) (N : News h₀ L s.heap news) (T : Top p loose mean mg mb h₀) (hk : cs.kind = .function)
    (C1 : CodeHd base 34 30) (C2 : CodeHd base 41 37) (hT : FullIn news)
    (hdp : dp + 50 < recursionLimit) (hun : un + 300 < cLine) (hb : KBw.bInts b = [r0, r1, r2, r3]) (g0 : 0 ≤ r0 ∧ r0 < 17) (g1 : 0 ≤ r1 ∧ r1 < 17) (g2 : 0 ≤ r2 ∧ r2 < 17) (g3 : 0 ≤ r3 ∧ r3 < 17)
    (ret : ∀ q ys e nw' h' tk', Fr h₀ L h' m → News h₀ L h' ((q, W.listOf ys.toArray e) :: nw') → (∀ p ∈ news, p ∈ nw') → RowsAre nw' ys (table_val r0 r1 r2 r3) → Q (.ref q) { s with heap := h', toks := tk' }) :
    wpAny (model PySem.Challenge.rw_ic0006_01.row.prog w) (ktrTop dp un gd cn cs L a ccd cl outer) (call (.ref 75) [.bytes b t]) Q E s := by
  walk_at "myenterC"
  (rename _ = Data.cell _ => d9)
  replace d9 := (show _ = Data.cell (some (.bytes b t)) from d9)
  k_steps
  refine listCompX (by k_asm) (by rfl) (by intro _; rfl) (by intro _; rfl) (by rfl) (by decide) (by rfl) ?_
  k_steps
  refine SrcOk.range (by rfl) (by k_asm) (by k_asm) (by assumption) (by first | decide | rfl) (by first | rfl | decide) (by first | size_fits | exact Nat.le_of_ble_eq_true rfl) ⟨TInv (table_val r0 r1 r2 r3) _, TInv.start, TInv.len, ?turn, ?fin⟩
  case turn =>
    intro i ys nw v I oI C oC oX D h9 tk9 E9 hi hP hI hX F9 N9 off9 hlt9 hS
    obtain ⟨t9, rfl⟩ := hP
    have hsub := hI.2.1
    try simp only [List.cons_append, List.nil_append] at N9
    k_steps
    rename CarriedAll _ _ => hCA
    rename NewPlain _ _ _ _ => hNP
    refine TurnEnd.plain (by k_asm) (by k_asm) hNP (by assumption) off9 (fun _ => trivial) (fun e => TInv.step hI (fun _ h => .tail _ h) (.head _) (CarriedAll.intsOf hCA) (table_row hi))
  case fin =>
    intro D ys nw h9 tk9 hI F9 N9 off9
    k_steps
    rename News h₀ _ _ _ => kN9
    exact ret D ys _ nw _ _ (by k_asm) kN9 (fun p hp => hI.2.1 p (.tail _ hp)) hI.2.2

section
local macro_rules | `(tactic| walk_at "mysub2") => `(tactic| (intro q hq; repeat' (first | exact hq | (refine (by assumption : ∀ q ∈ _, q ∈ _) _ ?_) | refine List.mem_cons_of_mem _ ?_)))
local macro_rules | `(tactic| walk_at "mymem") => `(tactic| repeat' (first | exact List.mem_cons_self .. | (refine (by assumption : ∀ q ∈ _, q ∈ _) _ ?_) | refine List.mem_cons_of_mem _ ?_))
local macro_rules | `(tactic| walk_at "eval Name") => `(tactic| (k_here; (with_reducible show wpAny _ _ (eval (Expr.Name _ _) (compEnvC _ _ _ _)) _ _ _); k_dflt (first
  | (refine' lcf_cell ?N ?c ?m ?d ?_ ?a ?b; (case a => rfl); (case b => rfl); (case N => k_asm); (case c => rfl); (case m => walk_at "mymem"); (case d => assumption))
  | (refine' lcf_free ?N ?c ?m ?d ?_ ?a ?b; (case a => rfl); (case b => rfl); (case N => k_asm); (case c => rfl); (case m => walk_at "mymem"); (case d => assumption))
  | refine LCgL.ld_own (by k_asm) (by walk_at "mymem") (by assumption) (by assumption) ?_
  | fail "my name")))
local macro_rules | `(tactic| walk_at "eval ListComp") => `(tactic| (k_here; refine Stop.go ?_))
set_option maxRecDepth 100000 in
set_option maxHeartbeats 2000000 in
theorem lawsigned : ∀ (n : Nat) {w : World} {p : Program} {loose : List PySem.Str} {mean : ExcName → Option Value} {mg mb : PySem.Str → Option Value}
   {dp un : Nat} {gd : Option (List Code)} {cn : PySem.Str} {cs : Scope} {a : Addr} {ccd : Value} {cl : List (PySem.Str × Addr)} {outer : List Env} {A₀ : Around} {base h₀ : Heap} {L : Addr} {m : PySem.Str → Option Value} {s : Shared} {Q E : Value → Shared → Prop}
   {news : List (Addr × Obj)} {q : Addr} {ys : List Value} {e : Nat} {M : List (List Int)}
    (_B : Below A₀ base outer h₀) (_F : Fr h₀ L s.heap m) (_X : (hd.heap_1 w.params).In h₀) (_N : News h₀ L s.heap news) (_T : Top p loose mean mg mb h₀) (_hk : cs.kind = .function)
    (_hn : n ≤ 4) (_hdp : dp + 50 * (n + 1) < recursionLimit) (_hun : un + 300 * (n + 1) < cLine) (_hq : (q, W.listOf ys.toArray e) ∈ news) (_hR : RowsAre news ys M) (_hM : M.length = n) (_hr : ∀ r ∈ M, r.length = n) (_hi : ∀ r ∈ M, ∀ x ∈ r, 0 ≤ x ∧ x < 17)
    (_ret : ∀ t' h' tk', Fr h₀ L h' m → News h₀ L h' news → Q (.int (detv n M) t') { s with heap := h', toks := tk' }),
    wpAny (model PySem.Challenge.rw_ic0006_01.row.prog w) (ktrTop dp un gd cn cs L a ccd cl outer) (call (.ref 80) [.ref q]) Q E s := by
  intro n
  induction n with
  | zero =>
    intro w p loose mean mg mb dp un gd cn cs a ccd cl outer A₀ base h₀ L m s Q E news q ys e M B F X N T hk hn hdp hun hq hR hM hr hi ret
    obtain rfl : M = [] := List.eq_nil_of_length_eq_zero hM
    walk_at "myenterC"
    k_steps
    refine rowsEq (by k_asm) hq hR (by walk_at "mysub2") (List.mem_cons_self ..) .nil (fun _ h => h) (by ke_room) ?_
    k_steps
    exact ret _ _ _ (by k_asm) (cb_drop (by k_asm) (by walk_at "mysub2"))
  | succ n ih =>
    intro w p loose mean mg mb dp un gd cn cs a ccd cl outer A₀ base h₀ L m s Q E news q ys e M B F X N T hk hn hdp hun hq hR hM hr hi ret
    walk_at "myenterC"
    (rename _ = Data.cell _ => dB)
    replace dB := (show _ = Data.cell (some (.ref q)) from dB)
    k_steps
    refine rowsEq (by k_asm) hq hR (by walk_at "mysub2") (List.mem_cons_self ..) .nil (fun _ h => h) (by ke_room) ?_
    rw [show decide (M = []) = false from decide_eq_false (fun h => by rw [h] at hM; cases hM)]
    k_steps
    refine Stop.mk ?_
    refine listCompX (by k_asm) (by rfl) (by intro _; rfl) (by intro _; rfl) (by rfl) (by decide) (by rfl) ?_
    k_steps
    refine lenRows (by k_asm) hq hR (by walk_at "mysub2") hM (by omega) ?_
    k_steps
    refine SrcOk.range (by rfl) (by k_asm) (by k_asm) (by assumption) (small_le hn) (size_le hn) (Nat.le_trans hn (by decide)) ⟨IInv (fun k : Nat => (1 - 2 * ((k : Int) % 2)) * (M.getD 0 []).getD k 0 * detv n ((M.drop 1).map fun r => r.take k ++ r.drop (k + 1))) _, IInv.start, IInv.len, ?turn, ?fin⟩
    case turn =>
      intro k ys1 nw v I oI C oC oX D h9 tk9 E9 hk1 hP hI hX F9 N9 off9 hlt9 hS
      obtain ⟨t9, rfl⟩ := hP
      have hsub := hI.1
      try simp only [List.cons_append, List.nil_append] at N9 hsub
      k_steps
      refine rowItem hq hR (by k_asm) (by walk_at "mysub2") (by decide) (by omega) (by decide) ?_ (by with_unfolding_all rfl)
      intro a1 vs1 e1 hm1 hi1
      have hl0 : (M.getD (Int.toNat 0) []).length = n + 1 := hr _ (getD_mem (by show 0 < M.length; omega))
      k_steps
      refine Stop.mk ?_
      refine listCompV (by k_asm) (by rfl) (by decide) (by rfl) (by decide) (by rfl) ?_
      k_steps
      refine' kmk_slice_lit ?jF ?jN ?jl ?jp ?jq ?je ?_ ?js ?jt ?jz
      case jF => k_asm
      case jN => k_asm
      case jl => exact News.isList (by k_asm) (by walk_at "mymem"; exact hq)
      case jp => exact IsPart.int _ _
      case jq => exact IsPart.none
      case je => exact rows_drop (by rw [hR.length]; omega)
      case js => with_unfolding_all rfl
      case jt => (intro _; with_unfolding_all rfl)
      case jz => (rw [List.size_toArray, hR.length, hM]; exact Nat.le_trans hn (by decide))
      intro D2 h2 F2 N2 l2
      k_steps
      refine SrcOk.list (by rfl) (by k_asm) (by k_asm) (List.mem_cons_self ..) (by rw [List.size_toArray, List.length_drop, hR.length, hM]; exact Nat.le_trans (by omega) (Nat.le_trans hn (by decide))) ⟨TInv ((M.drop 1).map fun r => r.take k ++ r.drop (k + 1)) _, TInv.start, TInv.len, ?turn2, ?fin2⟩
      case turn2 =>
        intro i ys2 nw2 v2 I2 oI2 C2 oC2 D3 m2 h7 tk7 E7 hi3 hP3 hI3 hX3 hm3 F7 N7 off7 hne7 hS3 hIt3
        have hsub2 := hI3.2.1
        try simp only [List.cons_append, List.nil_append] at N7 hsub2
        have hP4 : (List.drop 1 ys)[i]? = some v2 := (List.getElem?_toArray ..).symm.trans hP3
        refine RowsAre.getK (RowsAre.drop hR) hP4 (fun a2 vs2 e2 r2 hv2 hma2 hia2 hr2 hrm => ?_)
        have hm4 := hm3.trans (congrArg some hv2)
        have hlr : r2.length = n + 1 := hr _ (List.mem_of_mem_drop hrm)
        k_steps
        refine' kmk_slice_ints ?jF ?jN ?jl ?jp ?jq hia2 ?jm rfl ?_ ?js ?jt ?jz
        case jF => k_asm
        case jN => k_asm
        case jl => exact News.isList (by k_asm) (by walk_at "mymem"; exact hma2)
        case jp => exact IsPart.none
        case jq => exact IsPart.int _ _
        case jm => exact kmk_upto hia2 (by omega)
        case js => with_unfolding_all rfl
        case jt => (intro _; with_unfolding_all rfl)
        case jz => (rw [List.size_toArray, hia2.length, hlr]; exact Nat.le_trans hn (by decide))
        intro D4 ws4 h4 F4 N4 l4 hi4 _ _
        k_steps
        refine' kmk_slice_ints ?jF ?jN ?jl ?jp ?jq hia2 ?jm rfl ?_ ?js ?jt ?jz
        case jF => k_asm
        case jN => k_asm
        case jl => exact News.isList (by k_asm) (by walk_at "mymem"; exact hma2)
        case jp => exact IsPart.int _ _
        case jq => exact IsPart.none
        case jm => exact kmk_from hia2 (by omega)
        case js => with_unfolding_all rfl
        case jt => (intro _; with_unfolding_all rfl)
        case jz => (rw [List.size_toArray, hia2.length, hlr]; exact Nat.le_trans hn (by decide))
        intro D5 ws5 h5 F5 N5 l5 hi5 _ _
        k_steps
        (rename IntsAre _ (List.take _ _ ++ _) => hI6)
        (rename News _ _ _ ((_, W.listOf _ 0) :: (D5, _) :: _) => N6)
        have hI7 := minor_ints hI6
        refine TurnEnd.add (by k_asm) N6 (by walk_at "mysub2") (by k_all) off7 (hS3.imp id fun ⟨o, hm, r⟩ => ⟨o, .tail _ hm, r⟩) (TInv.step hI3 (fun _ h => .tail _ h) (.head _) hI7 (by rw [List.getElem?_map, hr2]; rfl))
      case fin2 =>
        intro D6 ys3 nw3 h8 tk8 hI8 F8 N8 off8
        have hsub3 := hI8.2.1
        try simp only [List.cons_append, List.nil_append] at hsub3
        have hTl : ((M.drop 1).map fun r => r.take k ++ r.drop (k + 1)).length = n := by rw [List.length_map, List.length_drop, hM]; rfl
        have hRT : RowsAre nw3 ys3 ((M.drop 1).map fun r => r.take k ++ r.drop (k + 1)) := by
          have h := hI8.2.2
          rw [List.take_of_length_le (by rw [hTl, List.size_toArray, List.length_drop, hR.length, hM]; exact Nat.le_refl _)] at h
          exact h
        k_steps
        refine' ih ?gB ?gF ?gX ?gN ?gT ?gk ?gn ?gd ?gu (List.mem_cons_self ..) (hRT.mono fun _ h => .tail _ h) hTl (minor_len hk1 hr) (minor_in hi) ?_
        case gB => k_asm
        case gF => k_asm
        case gX => k_asm
        case gN => k_asm
        case gT => k_asm
        case gk => exact rfl
        case gn => omega
        case gd => ktr_room
        case gu => ktr_units
        intro t7 h7 tk7 F7 N7
        k_steps
        refine mul_int ?_ (sgn_fit hi)
        k_steps
        refine TurnEnd.same F7 N7 (by walk_at "mysub2") off9 trivial (IInv.step hI (fun _ h => h) sgn_eq)
    case fin =>
      intro D ys1 nw h9 tk9 hI F9 N9 off9
      have hsub := hI.1
      have hlD := N9.isList (.head _)
      k_steps
      refine' sumK (s := ⟨_, _, _, _, _⟩) ?jh ?jF ?jN ?jl ?ji ?_
      case jh => rfl
      case jF => exact F9
      case jN => exact N9
      case jl => exact hlD
      case ji => exact hI.2
      intro h6 tk6 t6 F6 N6
      k_steps
      exact ret _ _ _ (by k_asm) (cb_drop (by k_asm) (by walk_at "mysub2"))

end
theorem taken_len {r0 r1 r2 r3 : Int} {j : Nat} (hj : j < 4) : ((table_val r0 r1 r2 r3).getD (0 + (j : Int)).toNat []).length = 4 :=
  match j, hj with
  | 0, _ => rfl
  | 1, _ => rfl
  | 2, _ => rfl
  | 3, _ => rfl
theorem taken_row {M N : List (List Int)} {j : Nat} (hj : j < 4) : (taken_val M N)[j]? = some ((List.range 4).map fun k : Nat => ((List.range 4).map fun i : Nat => (M.getD (0 + (j : Int)).toNat []).getD (0 + (i : Int)).toNat 0 * (N.getD (0 + (i : Int)).toNat []).getD (0 + (k : Int)).toNat 0).sum % 17) := by
  unfold taken_val
  have e : ∀ n : Nat, (0 + (n : Int)).toNat = n := fun n => by omega
  simp only [e]
  rw [List.getElem?_map, List.getElem?_range hj]
  rfl
section
local macro_rules | `(tactic| walk_at "mysub2") => `(tactic| (intro q hq; repeat' (first | exact hq | (refine (by assumption : ∀ q ∈ _, q ∈ _) _ ?_) | refine List.mem_cons_of_mem _ ?_)))
local macro_rules | `(tactic| walk_at "mymem") => `(tactic| repeat' (first | exact List.mem_cons_self .. | (refine (by assumption : ∀ q ∈ _, q ∈ _) _ ?_) | refine List.mem_cons_of_mem _ ?_))
local macro_rules | `(tactic| walk_at "eval Name") => `(tactic| (k_here; (with_reducible show wpAny _ _ (eval (Expr.Name _ _) (compEnvC _ _ _ _)) _ _ _); k_dflt (first
  | (refine' lcf_cell ?N ?c ?m ?d ?_ ?a ?b; (case a => rfl); (case b => rfl); (case N => k_asm); (case c => rfl); (case m => walk_at "mymem"); (case d => assumption))
  | (refine' lcf_free ?N ?c ?m ?d ?_ ?a ?b; (case a => rfl); (case b => rfl); (case N => k_asm); (case c => rfl); (case m => walk_at "mymem"); (case d => assumption))
  | refine LCgL.ld_own (by k_asm) (by walk_at "mymem") (by assumption) (by assumption) ?_
  | fail "my name")))
local macro_rules | `(tactic| walk_at "eval ListComp") => `(tactic| (k_here; refine Stop.go ?_))
local macro_rules | `(tactic| walk_at "subscriptTail") => `(tactic| (k_here; (with_reducible show wpAny _ _ (subscriptTail _ _ (Value.ref _) (Value.int _ _)) _ _ _); first
  | ((refine' rowItem ?hm ?hR ?N ?hsub ?h0 ?h1 ?hf ?_ ?hs); (case hm => assumption); (case hR => assumption); (case N => k_asm); (case hsub => walk_at "mysub2"); (case h0 => omega); (case h1 => show _ < ((4 : Nat) : Int); omega); (case hf => omega); (case hs => with_unfolding_all rfl); intro a9' vs9' e9' hm9' hi9')
  | ((refine' intItem ?hm ?hi ?N ?hsub ?h0 ?h1 ?hf ?_ ?hs); (case hm => assumption); (case hi => assumption); (case N => k_asm); (case hsub => walk_at "mysub2"); (case h0 => omega); (case h1 => (rw [taken_len (by assumption)]; omega)); (case hf => omega); (case hs => with_unfolding_all rfl); intro t9')
  | fail "my item"))
set_option maxRecDepth 100000 in
set_option maxHeartbeats 2000000 in
theorem lawtaken {w : World} {p : Program} {loose : List PySem.Str} {mean : ExcName → Option Value} {mg mb : PySem.Str → Option Value}
   {dp un : Nat} {gd : Option (List Code)} {cn : PySem.Str} {cs : Scope} {a : Addr} {ccd : Value} {cl : List (PySem.Str × Addr)} {outer : List Env} {A₀ : Around} {base h₀ : Heap} {L : Addr} {m : PySem.Str → Option Value} {s : Shared} {Q E : Value → Shared → Prop}
   {news : List (Addr × Obj)} {q1 q2 : Addr} {ys zs : List Value} {e1 e2 : Nat} {r0 r1 r2 r3 o0 o1 o2 o3 : Int}
    (B : Below A₀ base outer h₀) (F : Fr h₀ L s.heap m) (X : (hd.heap_1 w.params).In h₀) (N : News h₀ L s.heap news) (T : Top p loose mean mg mb h₀) (hk : cs.kind = .function)
    (hdp : dp + 50 < recursionLimit) (hun : un + 300 < cLine) (g0 : 0 ≤ r0 ∧ r0 < 17) (g1 : 0 ≤ r1 ∧ r1 < 17) (g2 : 0 ≤ r2 ∧ r2 < 17) (g3 : 0 ≤ r3 ∧ r3 < 17) (hq1 : (q1, W.listOf ys.toArray e1) ∈ news) (hR1 : RowsAre news ys (table_val r0 r1 r2 r3)) (hq2 : (q2, W.listOf zs.toArray e2) ∈ news) (hR2 : RowsAre news zs (table_val o0 o1 o2 o3))
    (ret : ∀ q us e nw' h' tk', Fr h₀ L h' m → News h₀ L h' ((q, W.listOf us.toArray e) :: nw') → (∀ p ∈ news, p ∈ nw') → RowsAre nw' us (taken_val (table_val r0 r1 r2 r3) (table_val o0 o1 o2 o3)) → Q (.ref q) { s with heap := h', toks := tk' }) :
    wpAny (model PySem.Challenge.rw_ic0006_01.row.prog w) (ktrTop dp un gd cn cs L a ccd cl outer) (call (.ref 102) [.ref q1, .ref q2]) Q E s := by
  walk_at "myenterC"
  (rename _ = Data.cell _ => dB)
  replace dB := (show _ = Data.cell (some _) from dB)
  (rename _ = Data.cell (bindC _ _ _ _) => dA)
  replace dA := (show _ = Data.cell (some _) from dA)
  k_steps
  refine Stop.mk ?_
  refine listCompX (by k_asm) (by rfl) (by intro _; rfl) (by intro _; rfl) (by rfl) (by decide) (by rfl) ?_
  k_steps
  refine SrcOk.range (by rfl) (by k_asm) (by k_asm) (by assumption) (by first | decide | rfl) (by first | rfl | decide) (by first | size_fits | exact Nat.le_of_ble_eq_true rfl) ⟨TInv (taken_val (table_val r0 r1 r2 r3) (table_val o0 o1 o2 o3)) _, TInv.start, TInv.len, ?turn, ?fin⟩
  case turn =>
    intro j ys nw v I oI C oC oX D h9 tk9 E9 hj hP hI hX F9 N9 off9 hlt9 hS
    obtain ⟨t9, rfl⟩ := hP
    have hsub := hI.2.1
    try simp only [List.cons_append, List.nil_append] at N9 hsub
    refine listCompX (by k_asm) (by rfl) (by intro _; rfl) (by intro _; rfl) (by rfl) (by decide) (by rfl) ?_
    k_steps
    refine SrcOk.range (by rfl) (by k_asm) (by k_asm) (by assumption) (by first | decide | rfl) (by first | rfl | decide) (by first | size_fits | exact Nat.le_of_ble_eq_true rfl) ⟨IInv (fun k : Nat => ((List.range 4).map fun i : Nat => ((table_val r0 r1 r2 r3).getD (0 + (j : Int)).toNat []).getD (0 + (i : Int)).toNat 0 * ((table_val o0 o1 o2 o3).getD (0 + (i : Int)).toNat []).getD (0 + (k : Int)).toNat 0).sum % 17) _, IInv.start, IInv.len, ?turn2, ?fin2⟩
    case turn2 =>
      intro k ys2 nw2 v2 I2 oI2 C2 oC2 oX2 D2 h8 tk8 E8 hk2 hP2 hI2 hX2 F8 N8 off8 hlt8 hS2
      obtain ⟨t8, rfl⟩ := hP2
      have hsub2 := hI2.1
      try simp only [List.cons_append, List.nil_append] at N8 hsub2
      have hj4 : j < 4 := hj
      have hk4 : k < 4 := hk2
      k_steps
      refine Stop.mk ?_
      refine listCompV (by k_asm) (by rfl) (by decide) (by rfl) (by decide) (by rfl) ?_
      k_steps
      refine SrcOk.range (by rfl) (by k_asm) (by k_asm) (by assumption) (by first | decide | rfl) (by first | rfl | decide) (by first | size_fits | exact Nat.le_of_ble_eq_true rfl) ⟨IInv (fun i => ((table_val r0 r1 r2 r3).getD (0 + (j : Int)).toNat []).getD (0 + (i : Int)).toNat 0 * ((table_val o0 o1 o2 o3).getD (0 + (i : Int)).toNat []).getD (0 + (k : Int)).toNat 0) _, IInv.start, IInv.len, ?turn3, ?fin3⟩
      case turn3 =>
        intro i ys3 nw3 v3 I3 oI3 C3 oC3 D3 m3 h7 tk7 E7 hi3 hP3 hI3 hX3 hm3 F7 N7 off7 hne7 hS3 hIt3
        obtain ⟨t7, rfl⟩ := hP3
        have hsub3 := hI3.1
        try simp only [List.cons_append, List.nil_append] at N7 hsub3
        have hi4 : i < 4 := hi3
        try dsimp only
        try dsimp only at N7
        k_steps
        refine mul_int ?_ (mulFit (table_getD g0 g1 g2 g3 _ _))
        try dsimp only
        refine TurnEnd.same (by k_asm) (by k_asm) (by walk_at "mysub2") off7 trivial (IInv.step hI3 (fun _ h => h) rfl)
      case fin3 =>
        intro D3 ys3 nw3 h7 tk7 hI3 F7 N7 off7
        try dsimp only
        try dsimp only at N7
        have hsub3 := hI3.1
        try simp only [List.cons_append, List.nil_append] at hsub3
        have hl7 := N7.isList (.head _)
        (k_steps); show wpAny _ _ (call (Value.builtin "sum") [Value.ref D3]) _ _ _; refine' sumK (s := ⟨_, _, _, _, _⟩) ?hh ?F ?N ?hl ?hi ?_; (case hh => rfl); (case F => exact F7); (case N => exact N7); (case hl => exact hl7); (case hi => exact hI3.2)
        intro h6 tk6 t6 F6 N6
        k_steps
        refine TurnEnd.same (by k_asm) (by k_asm) (by walk_at "mysub2") off8 trivial (IInv.step hI2 (fun _ h => h) (by first | rfl | exact Int.fmod_eq_emod_of_nonneg _ (by decide)))
    case fin2 =>
      intro D2 ys2 nw2 h8 tk8 hI2 F8 N8 off8
      try dsimp only
      try dsimp only at N8
      have hsub2 := hI2.1
      try simp only [List.cons_append, List.nil_append] at hsub2
      have hj4 : j < 4 := hj
      refine TurnEnd.intro F8 N8 ((D2, LCg.lst ys2) :: nw) ?_ ?_ trivial ?_
      · simp only [List.cons_append, List.nil_append]
        intro q hq
        simp only [List.mem_cons] at hq
        rcases hq with rfl | rfl | rfl | rfl | rfl | hq
        · exact List.mem_cons_of_mem _ (hsub2 _ (by simp))
        · exact List.mem_cons_of_mem _ (hsub2 _ (by simp))
        · exact List.mem_cons_of_mem _ (hsub2 _ (by simp))
        · exact List.mem_cons_of_mem _ (hsub2 _ (by simp))
        · exact List.mem_cons_self ..
        · exact List.mem_cons_of_mem _ (hsub2 _ (by simp [hq]))
      · intro q hq o ho
        rcases List.mem_cons.mp hq with rfl | hq
        · refine Ne.symm (off8 o (hsub2 o ?_))
          simp only [List.mem_cons, List.not_mem_nil, or_false] at ho ⊢
          rcases ho with h | h | h | h <;> simp [h]
        · exact off9 q hq o ho
      · exact TInv.step hI (fun _ h => .tail _ h) (.head _) hI2.2 (taken_row hj4)
  case fin =>
    intro D ys nw h9 tk9 hI F9 N9 off9
    k_steps
    rename News h₀ _ _ _ => kN9
    exact ret D ys _ nw _ _ (by k_asm) kN9 (fun p hp => hI.2.1 p (.tail _ (.tail _ hp))) hI.2.2

end
local macro_rules | `(tactic| walk_at "myenterP") => `(tactic| (refine wpP_call ?_; (refine' codeP_def ?k1 ?k2 ?k3 ?k4 ?k5 ?kA ?kF ?kK ?k6 ?k7 ?k8 ?k9 ?kB ?_ ?c2 ?c3 ?c4 ?c5; (case kA => exact rfl); (case kF => exact rfl); (case kK => assumption); (case k1 => k_asm); (case k2 => k_asm); (case k3 => k_asm); (case k4 => k_asm); (case k5 => k_asm); (case k6 => k_is); (case k7 => k_is); (case k8 => ktr_room); (case k9 => exact BindsTo.of_eq rfl); (case c5 => decide); (case kB => exact locs rfl); (case c2 => exact rfl); (case c3 => exact rfl); (case c4 => exact rfl); k_whole; intro g' L' h' FG' F' N' B' X' T'; (try dsimp only))))
section
local macro_rules | `(tactic| walk_at "baoff") => `(tactic| (first | exact (fun p hp => Nat.ne_of_lt ((by assumption : ∀ q ∈ _, q.1 < _) p hp)) | (refine List.forall_mem_cons.mpr ⟨?_, ?_⟩; (refine neN ?_; (try dsimp only); omega); walk_at "baoff")))
local macro_rules | `(tactic| walk_at "baidx") => `(tactic| first | omega | (simp only [Array.size_setIfInBounds, Array.size_replicate, List.length_cons, List.length_nil, Int.toNat_natCast]; omega) | (simp only [Array.size_setIfInBounds, Array.size_replicate, List.length_cons, List.length_nil, Int.toNat_natCast]; decide))
local macro_rules | `(tactic| walk_at "setItem ref int") => `(tactic| (k_here; k_dflt (refine' ba_setItemK ?F ?N ?o ?a ?b ?z ?v ?_; (case F => k_asm); (case N => exact news_front (by k_asm) (by walk_at "mycut")); (case o => walk_at "baoff"); (case a => walk_at "baidx"); (case b => walk_at "baidx"); (case z => walk_at "baidx"); (case v => exact ⟨by omega, by omega⟩)); intro h9 F9 N9))
set_option maxRecDepth 100000 in
set_option maxHeartbeats 2000000 in
theorem byteswap2 {w : World} {p : Program} {loose : List PySem.Str} {mean : ExcName → Option Value} {mg mb : PySem.Str → Option Value}
   {dp un : Nat} {gd : Option (List Code)} {cn : PySem.Str} {cs : Scope} {a : Addr} {ccd : Value} {cl : List (PySem.Str × Addr)} {outer : List Env} {A₀ : Around} {base h₀ : Heap} {L : Addr} {m : PySem.Str → Option Value} {s : Shared} {Q E : Value → Shared → Prop}
   {news : List (Addr × Obj)} {b : Array UInt8} {r0 r1 r2 r3 : Int} {t u : Tok}
    (B : Below A₀ base outer h₀) (F : Fr h₀ L s.heap m) (X : (hd.heap_1 w.params).In h₀) (N : News h₀ L s.heap news) (T : Top p loose mean mg mb h₀) (hk : cs.kind = .function)
    (hdp : dp + 50 < recursionLimit) (hun : un + 300 < cLine) (hb : KBw.bInts b = [r0, r1, r2, r3]) (g0 : 0 ≤ r0 ∧ r0 < 17) (g1 : 0 ≤ r1 ∧ r1 < 17) (g2 : 0 ≤ r2 ∧ r2 < 17) (g3 : 0 ≤ r3 ∧ r3 < 17)
    (ret : ∀ b' t' h' tk', Fr h₀ L h' m → News h₀ L h' news → KBw.bInts b' = [r1, r0, r3, r2] → Q (.bytes b' t') { s with heap := h', toks := tk' }) :
    wpP (model PySem.Challenge.rw_ic0006_01.row.prog w) (ktrTop dp un gd cn cs L a ccd cl outer) (call (.ref 63) [.bytes b t, .int 2 u]) Q E s := by
  walk_at "myenterP"
  refine wpP_cons (wpP_Assign (wpP_callName ?_))
  k_fold
  k_steps
  refine wpP_callTy1 ?_
  k_fold
  k_steps
  refine makeBaK (by k_asm) (by k_asm) (show (0 : Int) < ((4 : Nat) : Int) by decide) (show ((4 : Nat) : Int) ≤ 1000 by decide) ?_
  intro x h1 F1 N1 lt1
  k_steps
  refine wpP.of ?_
  k_fold
  k_steps
  (rename IsRange _ _ _ _ _ _ _ _ => hr1)
  (rename Fr _ _ _ _ => lF1)
  (rename News _ _ _ _ => lN1)
  replace hr1 : IsRange _ _ 0 4 2 _ _ _ := hr1
  with_unfolding_all refine krs_iter (n := 2) (by rfl) hr1 (by decide) (by decide) lF1 lN1 ?_
  intro i1 l1
  have lx1 : @LT.lt Nat _ x i1 := l1 _ (.head _)
  refine KrsRest.succ (v := 0) (by rfl) (fun t1 h1 tk1 F1 N1 => ?_)
  k_steps
  refine UnrEnd.intro (by k_asm) (by k_asm) ((x, _) :: (i1, _) :: news) (by walk_at "mysub") (List.forall_mem_cons.mpr ⟨by k_ne, List.forall_mem_cons.mpr ⟨by k_ne, fun p hp => Nat.ne_of_lt (Nat.lt_trans (ltN (lt1 p hp)) (by omega))⟩⟩) ?_
  k_steps
  refine UnrEnd.intro (by k_asm) (by k_asm) ((x, _) :: (i1, _) :: news) (by walk_at "mysub") (List.forall_mem_cons.mpr ⟨by k_ne, List.forall_mem_cons.mpr ⟨by k_ne, fun p hp => Nat.ne_of_lt (Nat.lt_trans (ltN (lt1 p hp)) (by omega))⟩⟩) ?_
  k_steps
  refine UnrEnd.intro (by k_asm) (by k_asm) ((x, _) :: news) (by walk_at "mysub") (List.forall_mem_cons.mpr ⟨by k_ne, fun p hp => Nat.ne_of_lt (Nat.lt_trans (ltN (lt1 p hp)) (by omega))⟩) ?_
  refine KrsRest.succ (v := 2) (by rfl) (fun t2 h2 tk2 F2 N2 => ?_)
  k_steps
  refine UnrEnd.intro (by k_asm) (by k_asm) ((x, _) :: (i1, _) :: news) (by walk_at "mysub") (List.forall_mem_cons.mpr ⟨by k_ne, List.forall_mem_cons.mpr ⟨by k_ne, fun p hp => Nat.ne_of_lt (Nat.lt_trans (ltN (lt1 p hp)) (by omega))⟩⟩) ?_
  k_steps
  refine UnrEnd.intro (by k_asm) (by k_asm) ((x, _) :: (i1, _) :: news) (by walk_at "mysub") (List.forall_mem_cons.mpr ⟨by k_ne, List.forall_mem_cons.mpr ⟨by k_ne, fun p hp => Nat.ne_of_lt (Nat.lt_trans (ltN (lt1 p hp)) (by omega))⟩⟩) ?_
  k_steps
  refine UnrEnd.intro (by k_asm) (by k_asm) ((x, _) :: news) (by walk_at "mysub") (List.forall_mem_cons.mpr ⟨by k_ne, fun p hp => Nat.ne_of_lt (Nat.lt_trans (ltN (lt1 p hp)) (by omega))⟩) ?_
  k_steps
  rename News _ _ _ ((x, _) :: news) => lN9
  refine bytesOfBaK lN9 (.head _) (by walk_at "baidx") (fun t9 k9 => ?_)
  k_steps
  have hIn : KBa.In [r1, r0, r3, r2] := by
    intro n hn
    simp only [List.mem_cons, List.not_mem_nil, or_false] at hn
    omega
  exact ret _ _ _ _ (by k_asm) (cb_drop (by k_asm) (by walk_at "mysub")) (show KBw.bInts (byteArr [r1, r0, r3, r2]) = _ from KBa.ints_make hIn)

end
section
local macro_rules | `(tactic| walk_at "baoff") => `(tactic| (first | exact (fun p hp => Nat.ne_of_lt ((by assumption : ∀ q ∈ _, q.1 < _) p hp)) | (refine List.forall_mem_cons.mpr ⟨?_, ?_⟩; (refine neN ?_; (try dsimp only); omega); walk_at "baoff")))
local macro_rules | `(tactic| walk_at "baidx") => `(tactic| first | omega | (simp only [Array.size_setIfInBounds, Array.size_replicate, List.length_cons, List.length_nil, Int.toNat_natCast]; omega) | (simp only [Array.size_setIfInBounds, Array.size_replicate, List.length_cons, List.length_nil, Int.toNat_natCast]; decide))
local macro_rules | `(tactic| walk_at "setItem ref int") => `(tactic| (k_here; k_dflt (refine' ba_setItemK ?F ?N ?o ?a ?b ?z ?v ?_; (case F => k_asm); (case N => exact news_front (by k_asm) (by walk_at "mycut")); (case o => walk_at "baoff"); (case a => walk_at "baidx"); (case b => walk_at "baidx"); (case z => walk_at "baidx"); (case v => exact ⟨by omega, by omega⟩)); intro h9 F9 N9))
set_option maxRecDepth 100000 in
set_option maxHeartbeats 2000000 in
theorem byteswap4 {w : World} {p : Program} {loose : List PySem.Str} {mean : ExcName → Option Value} {mg mb : PySem.Str → Option Value}
   {dp un : Nat} {gd : Option (List Code)} {cn : PySem.Str} {cs : Scope} {a : Addr} {ccd : Value} {cl : List (PySem.Str × Addr)} {outer : List Env} {A₀ : Around} {base h₀ : Heap} {L : Addr} {m : PySem.Str → Option Value} {s : Shared} {Q E : Value → Shared → Prop}
   {news : List (Addr × Obj)} {b : Array UInt8} {r0 r1 r2 r3 : Int} {t u : Tok}
    (B : Below A₀ base outer h₀) (F : Fr h₀ L s.heap m) (X : (hd.heap_1 w.params).In h₀) (N : News h₀ L s.heap news) (T : Top p loose mean mg mb h₀) (hk : cs.kind = .function)
    (hdp : dp + 50 < recursionLimit) (hun : un + 300 < cLine) (hb : KBw.bInts b = [r0, r1, r2, r3]) (g0 : 0 ≤ r0 ∧ r0 < 17) (g1 : 0 ≤ r1 ∧ r1 < 17) (g2 : 0 ≤ r2 ∧ r2 < 17) (g3 : 0 ≤ r3 ∧ r3 < 17)
    (ret : ∀ b' t' h' tk', Fr h₀ L h' m → News h₀ L h' news → KBw.bInts b' = [r3, r2, r1, r0] → Q (.bytes b' t') { s with heap := h', toks := tk' }) :
    wpP (model PySem.Challenge.rw_ic0006_01.row.prog w) (ktrTop dp un gd cn cs L a ccd cl outer) (call (.ref 63) [.bytes b t, .int 4 u]) Q E s := by
  walk_at "myenterP"
  refine wpP_cons (wpP_Assign (wpP_callName ?_))
  k_fold
  k_steps
  refine wpP_callTy1 ?_
  k_fold
  k_steps
  refine makeBaK (by k_asm) (by k_asm) (show (0 : Int) < ((4 : Nat) : Int) by decide) (show ((4 : Nat) : Int) ≤ 1000 by decide) ?_
  intro x h1 F1 N1 lt1
  k_steps
  refine wpP.of ?_
  k_fold
  k_steps
  (rename IsRange _ _ _ _ _ _ _ _ => hr1)
  (rename Fr _ _ _ _ => lF1)
  (rename News _ _ _ _ => lN1)
  replace hr1 : IsRange _ _ 0 4 4 _ _ _ := hr1
  with_unfolding_all refine krs_iter (n := 1) (by rfl) hr1 (by decide) (by decide) lF1 lN1 ?_
  intro i1 l1
  have lx1 : @LT.lt Nat _ x i1 := l1 _ (.head _)
  refine KrsRest.succ (v := 0) (by rfl) (fun t1 h1 tk1 F1 N1 => ?_)
  k_steps
  refine UnrEnd.intro (by k_asm) (by k_asm) ((x, _) :: (i1, _) :: news) (by walk_at "mysub") (List.forall_mem_cons.mpr ⟨by k_ne, List.forall_mem_cons.mpr ⟨by k_ne, fun p hp => Nat.ne_of_lt (Nat.lt_trans (ltN (lt1 p hp)) (by omega))⟩⟩) ?_
  k_steps
  refine UnrEnd.intro (by k_asm) (by k_asm) ((x, _) :: (i1, _) :: news) (by walk_at "mysub") (List.forall_mem_cons.mpr ⟨by k_ne, List.forall_mem_cons.mpr ⟨by k_ne, fun p hp => Nat.ne_of_lt (Nat.lt_trans (ltN (lt1 p hp)) (by omega))⟩⟩) ?_
  k_steps
  refine UnrEnd.intro (by k_asm) (by k_asm) ((x, _) :: (i1, _) :: news) (by walk_at "mysub") (List.forall_mem_cons.mpr ⟨by k_ne, List.forall_mem_cons.mpr ⟨by k_ne, fun p hp => Nat.ne_of_lt (Nat.lt_trans (ltN (lt1 p hp)) (by omega))⟩⟩) ?_
  k_steps
  refine UnrEnd.intro (by k_asm) (by k_asm) ((x, _) :: (i1, _) :: news) (by walk_at "mysub") (List.forall_mem_cons.mpr ⟨by k_ne, List.forall_mem_cons.mpr ⟨by k_ne, fun p hp => Nat.ne_of_lt (Nat.lt_trans (ltN (lt1 p hp)) (by omega))⟩⟩) ?_
  k_steps
  refine UnrEnd.intro (by k_asm) (by k_asm) ((x, _) :: news) (by walk_at "mysub") (List.forall_mem_cons.mpr ⟨by k_ne, fun p hp => Nat.ne_of_lt (Nat.lt_trans (ltN (lt1 p hp)) (by omega))⟩) ?_
  k_steps
  rename News _ _ _ ((x, _) :: news) => lN9
  refine bytesOfBaK lN9 (.head _) (by walk_at "baidx") (fun t9 k9 => ?_)
  k_steps
  have hIn : KBa.In [r3, r2, r1, r0] := by
    intro n hn
    simp only [List.mem_cons, List.not_mem_nil, or_false] at hn
    omega
  exact ret _ _ _ _ (by k_asm) (cb_drop (by k_asm) (by walk_at "mysub")) (show KBw.bInts (byteArr [r3, r2, r1, r0]) = _ from KBa.ints_make hIn)

end
local macro_rules | `(tactic| walk_at "call ref") => `(tactic| (k_here; (with_reducible show wpAny _ _ (call (Value.ref 97) _) _ _ _); k_dflt (refine' lawproduct ?gB ?gF ?gX ?gN ?gT ?gk ?gC ?gc ?gf ?gd ?gu ?gb ?g0 ?g1 ?g2 ?g3 ?_; (case gB => k_asm); (case gF => k_asm); (case gX => k_asm); (case gN => k_asm); (case gT => k_asm); (case gk => first | exact rfl | assumption); (case gC => kn_code); (case gc => kn_code); (case gf => walk_at "myfull"); (case gd => ktr_room); (case gu => ktr_units); (case gb => assumption); (case g0 => walk_at "myrange"); (case g1 => walk_at "myrange"); (case g2 => walk_at "myrange"); (case g3 => walk_at "myrange")); intro t9 h9 tk9 F9 N9; (try dsimp only); (try k_fold)))
local macro_rules | `(tactic| walk_at "call ref") => `(tactic| (k_here; (with_reducible show wpAny _ _ (call (Value.ref 75) _) _ _ _); k_dflt (refine' lawtable ?gB ?gF ?gX ?gN ?gT ?gk ?gC ?gc ?gf ?gd ?gu ?gb ?g0 ?g1 ?g2 ?g3 ?_; (case gB => k_asm); (case gF => k_asm); (case gX => k_asm); (case gN => k_asm); (case gT => k_asm); (case gk => first | exact rfl | assumption); (case gC => kn_code); (case gc => kn_code); (case gf => walk_at "myfull"); (case gd => ktr_room); (case gu => ktr_units); (case gb => assumption); (case g0 => walk_at "myrange"); (case g1 => walk_at "myrange"); (case g2 => walk_at "myrange"); (case g3 => walk_at "myrange")); intro q9 ys9 e9 nw9 h9 tk9 F9 N9 sub9 hR9; (try dsimp only); (try k_fold)))
local macro_rules | `(tactic| walk_at "call ref") => `(tactic| (k_here; (with_reducible show wpAny _ _ (call (Value.ref 90) _) _ _ _); k_dflt (refine' lawround ?gB ?gF ?gX ?gN ?gT ?gk ?gC ?gc ?gf ?gd ?gu ?gb ?g0 ?g1 ?g2 ?g3 ?go ?i0 ?i1 ?i2 ?i3 ?_; (case gB => k_asm); (case gF => k_asm); (case gX => k_asm); (case gN => k_asm); (case gT => k_asm); (case gk => first | exact rfl | assumption); (case gC => kn_code); (case gc => kn_code); (case gf => walk_at "myfull"); (case gd => ktr_room); (case gu => ktr_units); (case gb => assumption); (case g0 => walk_at "myrange"); (case g1 => walk_at "myrange"); (case g2 => walk_at "myrange"); (case g3 => walk_at "myrange"); (case go => assumption); (case i0 => walk_at "myrange"); (case i1 => walk_at "myrange"); (case i2 => walk_at "myrange"); (case i3 => walk_at "myrange")); intro b9 t9 h9 tk9 F9 N9 hb9; (try dsimp only); (try k_fold)))
local macro_rules | `(tactic| walk_at "mysub2") => `(tactic| (intro q hq; repeat' (first | exact hq | (refine (by assumption : ∀ q ∈ _, q ∈ _) _ ?_) | refine List.mem_cons_of_mem _ ?_)))
local macro_rules | `(tactic| walk_at "call ref") => `(tactic| (k_here; (with_reducible show wpAny _ _ (call (Value.ref 80) _) _ _ _); k_dflt (refine' lawsigned 4 ?gB ?gF ?gX ?gN ?gT ?gk (Nat.le_refl 4) ?gd ?gu ?gq ?gR rfl table_len4 ?gi ?_; (case gB => k_asm); (case gF => k_asm); (case gX => k_asm); (case gN => k_asm); (case gT => k_asm); (case gk => first | exact rfl | assumption); (case gd => ktr_room); (case gu => ktr_units); (case gq => exact List.mem_cons_self ..); (case gR => exact RowsAre.mono (by assumption) (by walk_at "mysub2")); (case gi => exact table_in (by assumption) (by assumption) (by assumption) (by assumption))); intro t9 h9 tk9 F9 N9; (try dsimp only); (try k_fold)))
local macro_rules | `(tactic| walk_at "myfull") => `(tactic| (refine' FullIn.mono ?ma ?mb; (case ma => assumption); (case mb => walk_at "mysub2")))
local macro_rules | `(tactic| walk_at "mymem9") => `(tactic| repeat' (first | exact List.mem_cons_self .. | (refine (by assumption : ∀ q ∈ _, q ∈ _) _ ?_) | refine List.mem_cons_of_mem _ ?_))
local macro_rules | `(tactic| walk_at "call ref") => `(tactic| (k_here; (with_reducible show wpAny _ _ (call (Value.ref 102) _) _ _ _); k_dflt (refine' lawtaken ?gB ?gF ?gX ?gN ?gT ?gk ?gd ?gu ?g0 ?g1 ?g2 ?g3 ?q1 ?R1 ?q2 ?R2 ?_; (case gB => k_asm); (case gF => k_asm); (case gX => k_asm); (case gN => k_asm); (case gT => k_asm); (case gk => first | exact rfl | assumption); (case gd => ktr_room); (case gu => ktr_units); (case q1 => walk_at "mymem9"); (case R1 => exact RowsAre.mono (by assumption) (by walk_at "mysub2")); (case q2 => walk_at "mymem9"); (case R2 => exact RowsAre.mono (by assumption) (by walk_at "mysub2")); (case g0 => assumption); (case g1 => assumption); (case g2 => assumption); (case g3 => assumption)); intro q9 ys9 e9 nw9 h9 tk9 F9 N9 sub9 hR9; (try dsimp only); (try k_fold)))
theorem lawrestV {w : World} {p : Program} {loose : List PySem.Str} {mean : ExcName → Option Value} {mg mb : PySem.Str → Option Value}
   {dp un : Nat} {gd : Option (List Code)} {cn : PySem.Str} {cs : Scope} {a : Addr} {ccd : Value} {cl : List (PySem.Str × Addr)} {outer : List Env} {A₀ : Around} {base h₀ : Heap} {L : Addr} {m : PySem.Str → Option Value} {s : Shared} {Q E : Value → Shared → Prop}
   {news : List (Addr × Obj)} {n v : Int} {t : Tok} (hv : n % 17 = v)
    (B : Below A₀ base outer h₀) (F : Fr h₀ L s.heap m) (X : (hd.heap_1 w.params).In h₀) (N : News h₀ L s.heap news) (T : Top p loose mean mg mb h₀) (hk : cs.kind = .function)
    (C1 : CodeHd base 34 30) (C2 : CodeHd base 41 37) (hT : FullIn news)
    (hdp : dp + 90 < recursionLimit) (hun : un + 550 < cLine) (h0 : -33554432 ≤ n) (h1 : n < 33554432)
    (ret : ∀ t' h' tk', Fr h₀ L h' m → News h₀ L h' news → Q (.int v t') { s with heap := h', toks := tk' }) :
    wpAny (model PySem.Challenge.rw_ic0006_01.row.prog w) (ktrTop dp un gd cn cs L a ccd cl outer) (call (.ref 70) [.int n t]) Q E s := by
  subst hv
  exact lawrest B F X N T hk C1 C2 hT hdp hun h0 h1 ret
/-- the law's own statements, from the i-th on -/
def lawRest (i : Nat) : List Stmt := match PySem.Challenge.pw_ic0006_01.main.body.getLast? with
  | some (.FunctionDef _ _ body _ _ _ _ _ _ _) => body.drop i
  | _ => []
def lawCs : Scope := match PySem.Challenge.pw_ic0006_01.main.body.getLast? with
  | some (.FunctionDef _ _ _ _ _ _ scope _ _ _) => scope
  | _ => { kind := .function, names := [], isGenerator := false, isCoroutine := false }
abbrev lawCl (L : Addr) : List (PySem.Str × Addr) := [("ones", L + 3), ("roots", L + 2), ("row", L + 1)]
abbrev lawEnv (L : Addr) : Env := envX "law" lawCs L 107 (.ref 106) (lawCl L)
section
set_option maxRecDepth 100000 in
set_option maxHeartbeats 2000000 in
theorem seg0 {w : World} {p : Program} {loose : List PySem.Str} {mean : ExcName → Option Value} {mg mb : PySem.Str → Option Value}
   {dp un : Nat} {gd : Option (List Code)} {outer : List Env} {A₀ : Around} {base h₀ : Heap} {L : Addr} {m : PySem.Str → Option Value} {s : Shared} {Q : Flow → Shared → Prop} {E : Value → Shared → Prop}
   {news : List (Addr × Obj)} {l : Addr} {vs : List Value} {ns : List Int}
    (B : Below A₀ base outer h₀) (F : Fr h₀ L s.heap fun y => if y = ("script" : PySem.Str) then some (.ref l) else m y) (X : (hd.heap_1 w.params).In h₀) (N : News h₀ L s.heap news) (T : Top p loose mean mg mb h₀)
    (hl : h₀.IsList l vs.toArray) (hi : IntsAre vs ns) (hz : ns.length ≤ 63)
    (next : ∀ D ws e h' tk', Fr h₀ L h' (fun y => if y = ("numbers" : PySem.Str) then some (.ref D) else if y = ("script" : PySem.Str) then some (.ref l) else m y) → News h₀ L h' ((D, W.listOf (List.toArray ws) e) :: news) → IntsAre ws ((ns ++ List.replicate 8 0).take 8) →
      wpP (model PySem.Challenge.rw_ic0006_01.row.prog w) (ktrTop dp un gd "law" lawCs L 107 (.ref 106) (lawCl L) outer) (execs (lawRest 1) (lawEnv L)) Q E { s with heap := h', toks := tk' }) :
    wpP (model PySem.Challenge.rw_ic0006_01.row.prog w) (ktrTop dp un gd "law" lawCs L 107 (.ref 106) (lawCl L) outer) (execs (lawRest 0) (lawEnv L)) Q E s := by
  show wpP _ (ktrTop _ _ _ _ { kind := _, names := _, isGenerator := _, isCoroutine := _, more := _ } _ _ _ _ _) (execs (_ :: _) (envX _ { kind := _, names := _, isGenerator := _, isCoroutine := _, more := _ } _ _ _ _)) _ _ _
  refine wpP_consAny ?_
  k_fold
  k_steps
  rename IntsAre _ (List.take 8 _) => hI9
  refine next _ _ _ _ _ (by k_asm) (cb_drop (by k_asm) (by walk_at "mysub")) hI9

end
theorem mod_in (a b c d : Int) : KBa.In [a.fmod 17, b.fmod 17, c.fmod 17, d.fmod 17] := by
  intro n hn
  simp only [List.mem_cons, List.not_mem_nil, or_false] at hn
  rcases hn with rfl | rfl | rfl | rfl <;> (rw [Int.fmod_eq_emod_of_nonneg _ (by decide)]; omega)
theorem mod_ints (a b c d : Int) : KBw.bInts (byteArr [a.fmod 17, b.fmod 17, c.fmod 17, d.fmod 17]) = [a % 17, b % 17, c % 17, d % 17] := by
  rw [KBa.ints_make (mod_in a b c d)]
  simp only [Int.fmod_eq_emod_of_nonneg _ (show (0 : Int) ≤ 17 by decide)]
/-- a store into one's own cell, which stands first in the ledger -/
theorem storeCellK {M : Model} {A : Around} {E : Value → Shared → Prop} {s : Shared} {h₀ : Heap} {L c : Addr} {m : PySem.Str → Option Value} {env : Env} {x : PySem.Str} {v : Value} {v₀ : Option Value} {o : Obj} {news : List (Addr × Obj)} {Q : Unit → Shared → Prop} (F : Fr h₀ L s.heap m) (N : News h₀ L s.heap ((c, o) :: news)) (off : ∀ q ∈ news, q.1 ≠ c)
    (hc : env.cells.lookup x = some c) (hd : o.data = .cell v₀) (h : ∀ h' o', Fr h₀ L h' m → News h₀ L h' ((c, o') :: news) → o'.data = .cell (some v) → Q () { s with heap := h' })
    (hk : env.scope.kind = .function) (hx : env.kindOf x = some .cell) : wpAny M A (storeName env x v) Q E s := by
  have hmem := N (c, o) (.head _)
  refine wpAny_storeName_cell hk hx hc ⟨o, hmem.1, hd⟩ fun h' hv hs => ?_
  obtain ⟨o', ho', hd'⟩ := hv
  refine h h' o' ⟨F.ns.sameBut hs (Ne.symm hmem.2.1), fun b ob e => (hs.2 b (fun q => ?_)).trans (F.keep b ob e), F.above⟩ (fun p hp => ?_) hd'
  · rw [q, hmem.2.2] at e; cases e
  · rcases List.mem_cons.mp hp with rfl | hp
    · exact ⟨ho', hmem.2⟩
    · exact ⟨(hs.2 _ (off p hp)).trans (N p (.tail _ hp)).1, (N p (.tail _ hp)).2⟩
section
set_option maxRecDepth 100000 in
set_option maxHeartbeats 2000000 in
theorem seg1     {w : World} {p : Program} {loose : List PySem.Str} {mean : ExcName → Option Value} {mg mb : PySem.Str → Option Value}
   {dp un : Nat} {gd : Option (List Code)} {outer : List Env} {A₀ : Around} {base h₀ : Heap} {L : Addr} {m : PySem.Str → Option Value} {s : Shared} {Q : Flow → Shared → Prop} {E : Value → Shared → Prop}
   {news : List (Addr × Obj)} {D : Addr} {ws : List Value} {e : Nat} {oR : Obj} {n0 n1 n2 n3 n4 n5 n6 n7 : Int}
    (B : Below A₀ base outer h₀) (F : Fr h₀ L s.heap fun y => if y = ("numbers" : PySem.Str) then some (.ref D) else m y) (X : (hd.heap_1 w.params).In h₀) (N : News h₀ L s.heap ((L + 1, oR) :: news)) (T : Top p loose mean mg mb h₀)
    (off : ∀ q ∈ news, q.1 ≠ L + 1) (hoR : oR.data = .cell none) (hD : (D, W.listOf (List.toArray ws) e) ∈ news) (hi : IntsAre ws [n0, n1, n2, n3, n4, n5, n6, n7])
    (next : ∀ b bo t u oR' h' tk', Fr h₀ L h' (fun y => if y = ("other" : PySem.Str) then some (.bytes bo u) else if y = ("numbers" : PySem.Str) then some (.ref D) else m y) → News h₀ L h' ((L + 1, oR') :: news) → oR'.data = .cell (some (.bytes b t)) →
      KBw.bInts b = [n0 % 17, n1 % 17, n2 % 17, n3 % 17] → KBw.bInts bo = [n4 % 17, n5 % 17, n6 % 17, n7 % 17] →
      wpP (model PySem.Challenge.rw_ic0006_01.row.prog w) (ktrTop dp un gd "law" lawCs L 107 (.ref 106) (lawCl L) outer) (execs (lawRest 2) (lawEnv L)) Q E { s with heap := h', toks := tk' }) :
    wpP (model PySem.Challenge.rw_ic0006_01.row.prog w) (ktrTop dp un gd "law" lawCs L 107 (.ref 106) (lawCl L) outer) (execs (lawRest 1) (lawEnv L)) Q E s := by
  show wpP _ (ktrTop _ _ _ _ { kind := _, names := _, isGenerator := _, isCoroutine := _, more := _ } _ _ _ _ _) (execs (_ :: _) (envX _ { kind := _, names := _, isGenerator := _, isCoroutine := _, more := _ } _ _ _ _)) _ _ _
  refine wpP_consAny ?_
  k_fold
  k_steps
  (rename CarriedAll _ (List.map _ (List.filter _ (List.drop 4 _))) => hCA)
  refine KBa.make_K (ns := [n4.fmod 17, n5.fmod 17, n6.fmod 17, n7.fmod 17]) (by k_asm) (by k_asm) rfl (by assumption) (CarriedAll.intsOf hCA) (mod_in n4 n5 n6 n7) (by show 4 ≤ 16777216; decide) ?_
  intro h8 t8 k8 F8 N8 hr8
  k_steps
  refine' storeCellK ?F ?N off ?c hoR ?_ ?hk ?hx
  case F => k_asm
  case N => exact cb_drop (by k_asm) (by walk_at "mysub")
  case c => rfl
  case hk => rfl
  case hx => rfl
  intro h9 oR9 F9 N9 hd9
  k_steps
  refine next _ _ _ _ oR9 _ _ (by k_asm) (cb_drop (by k_asm) (by walk_at "mysub")) hd9 (mod_ints n0 n1 n2 n3) (mod_ints n4 n5 n6 n7)

end
section
local macro_rules | `(tactic| walk_at "mysub2") => `(tactic| (intro q hq; repeat' (first | exact hq | (refine (by assumption : ∀ q ∈ _, q ∈ _) _ ?_) | refine List.mem_cons_of_mem _ ?_)))
local macro_rules | `(tactic| walk_at "eval ListComp") => `(tactic| (k_here; refine Stop.go ?_))
local macro_rules | `(tactic| walk_at "call ref") => `(tactic| (k_here; (with_reducible show wpAny _ _ (call (Value.ref 70) _) _ _ _); refine Stop.go ?_))
set_option maxRecDepth 100000 in
set_option maxHeartbeats 2000000 in
theorem seg2 {w : World} {p : Program} {loose : List PySem.Str} {mean : ExcName → Option Value} {mg mb : PySem.Str → Option Value}
   {dp un : Nat} {gd : Option (List Code)} {outer : List Env} {A₀ : Around} {base h₀ : Heap} {L : Addr} {m : PySem.Str → Option Value} {s : Shared} {Q : Flow → Shared → Prop} {E : Value → Shared → Prop}
   {news : List (Addr × Obj)} 
    (B : Below A₀ base outer h₀) (F : Fr h₀ L s.heap (fun y => m y)) (X : (hd.heap_1 w.params).In h₀) (N : News h₀ L s.heap ((30, tabObj #[]) :: (37, tabObj #[]) :: news)) (T : Top p loose mean mg mb h₀) (C1 : CodeHd base 34 30) (C2 : CodeHd base 41 37) (hdp : dp + 400 < recursionLimit) (hun : un + 2500 < cLine)
    (o30 : ∀ q ∈ news, q.1 ≠ 30) (o37 : ∀ q ∈ news, q.1 ≠ 37)
    (next : ∀ news' h' tk', Fr h₀ L h' (fun y => m y) → News h₀ L h' news' → (∀ p ∈ news, p ∈ news') → FullIn news' →
      wpP (model PySem.Challenge.rw_ic0006_01.row.prog w) (ktrTop dp un gd "law" lawCs L 107 (.ref 106) (lawCl L) outer) (execs (lawRest 3) (lawEnv L)) Q E { s with heap := h', toks := tk' }) :
    wpP (model PySem.Challenge.rw_ic0006_01.row.prog w) (ktrTop dp un gd "law" lawCs L 107 (.ref 106) (lawCl L) outer) (execs (lawRest 2) (lawEnv L)) Q E s := by
  show wpP _ (ktrTop _ _ _ _ { kind := _, names := _, isGenerator := _, isCoroutine := _, more := _ } _ _ _ _ _) (execs (_ :: _) (envX _ { kind := _, names := _, isGenerator := _, isCoroutine := _, more := _ } _ _ _ _)) _ _ _
  refine wpP_consAny ?_
  k_fold
  k_steps
  refine Stop.mk ?_
  refine listCompV (by k_asm) (by rfl) (by decide) (by rfl) (by decide) (by rfl) ?_
  k_steps
  rename_i l9 h9 F9 N9 l1
  refine SrcOk.list (by rfl) (by k_asm) (by k_asm) (List.mem_cons_self ..) (Nat.le_of_ble_eq_true rfl) ⟨fun i ys nw => IntsAre ys (List.replicate i 1) ∧ Phase ((l9, W.listOf #[Value.int 1 s.toks, Value.int 4 (s.toks + 1), Value.int 16 (s.toks + 1 + 1), Value.int 13 (s.toks + 1 + 1 + 1)] 0) :: news) nw ∧ (0 < i → FullIn nw), ?start, ?len, ?turn, ?fin⟩
  case start => exact ⟨.nil, ⟨_, _, (l9, _) :: news, .tail _ (.head _), .tail _ (.tail _ (.head _)), List.forall_mem_cons.mpr ⟨.head _, fun p hp => .tail _ (.tail _ (.tail _ hp))⟩, fun _ h => h, List.forall_mem_cons.mpr ⟨Ne.symm (Nat.ne_of_lt l1.1), o30⟩, List.forall_mem_cons.mpr ⟨Ne.symm (Nat.ne_of_lt l1.2.1), o37⟩, .inl rfl, .inl rfl⟩, fun h => absurd h (by decide)⟩
  case len => exact fun i ys nw h => by rw [h.1.length, List.length_replicate]; exact Nat.le_refl _
  case turn =>
    intro i ys nw v I oI C oC D m2 h7 tk7 E7 hi hP hI hX hm2 F7 N7 off7 hne hS hIt
    refine roots_at hP (fun r t hv hr hb hq _ => ?_)
    refine Phase.elim hI.2.1 (fun oA oB rest hA hB hrs hbs h30 h37 tA tB => ?_)
    have hm3 := hm2.trans (congrArg some hv)
    k_steps
    refine Stop.mk ?_
    refine' lawrest0 (rest := [(I, oI), (C, oC), (D, LCg.lst ys)] ++ rest) ?jB ?jF ?jX ?jN ?jT rfl C1 C2 (phase_off hA off7 h30) (phase_off hB off7 h37) (tabAny_mono tA fun _ h => List.mem_append_right _ h) (tabAny_mono tB fun _ h => List.mem_append_right _ h) ?jd ?ju (by omega) (by omega) ?_
    case jB => k_asm
    case jF => k_asm
    case jX => k_asm
    case jN => exact phase_news (own := [(I, oI), (C, oC), (D, LCg.lst ys)]) N7 hA hB hrs
    case jT => k_asm
    case jd => ktr_room
    case ju => ktr_units
    intro t9 c1 oc1 v1 u1 c2 oc2 v2 u2 h6 tk6 F6 N6 d1 e1 d2 e2 _ _
    k_steps
    exact phase_turn (own := [(I, oI), (C, oC), (D, LCg.lst ys)]) F6 N6 hA hB off7 hrs hbs h30 h37 (List.forall_mem_cons.mpr ⟨hIt, List.forall_mem_cons.mpr ⟨iter_ns hX, List.forall_mem_cons.mpr ⟨iter_lst ys, fun _ h => nomatch h⟩⟩⟩) d1 e1 d2 e2
      (fun x hx => .inr ⟨_, hx _ (hbs _ (.head _)), rfl, _, rfl⟩) (fun x hp hf => ⟨ones_snoc hI.1 hq, hp, fun _ => hf⟩)
  case fin =>
    intro D ys nw h8 tk8 hI F8 N8 off8
    have hlD := N8.isList (.head _)
    k_steps
    rename News _ _ _ ((_, W.listOf #[Value.int 1 _, _, _, _] 0) :: (D, _) :: _) => N7
    refine ke_ne_ints (N7.isList (.tail _ (.head _))) (N7.isList (.head _)) (show IntsAre ys (List.replicate 4 1) from hI.1) (.cons 1 _ (.cons 1 _ (.cons 1 _ (.cons 1 _ .nil)))) (by ke_room) ?_
    rw [show (!decide (List.replicate 4 (1 : Int) = [1, 1, 1, 1])) = false by decide]
    k_steps
    exact next nw _ _ (by k_asm) (cb_drop (by k_asm) (by walk_at "mysub2")) (fun p hp => Phase.elim hI.2.1 fun oA oB rest _ _ hr hb _ _ _ _ => hr p (hb p (.tail _ hp))) (hI.2.2 (show 0 < 4 by decide))

end
section
set_option maxRecDepth 100000 in
set_option maxHeartbeats 2000000 in
theorem seg3 {w : World} {p : Program} {loose : List PySem.Str} {mean : ExcName → Option Value} {mg mb : PySem.Str → Option Value}
   {dp un : Nat} {gd : Option (List Code)} {outer : List Env} {A₀ : Around} {base h₀ : Heap} {L : Addr} {m : PySem.Str → Option Value} {s : Shared} {Q : Flow → Shared → Prop} {E : Value → Shared → Prop}
   {news : List (Addr × Obj)} {oR : Obj} {b : Array UInt8} {tb : Tok} {r0 r1 r2 r3 : Int}
    (B : Below A₀ base outer h₀) (F : Fr h₀ L s.heap (fun y => m y)) (X : (hd.heap_1 w.params).In h₀) (N : News h₀ L s.heap news) (T : Top p loose mean mg mb h₀) (C1 : CodeHd base 34 30) (C2 : CodeHd base 41 37) (hdp : dp + 400 < recursionLimit) (hun : un + 2500 < cLine)
    (hRow : (L + 1, oR) ∈ news) (dR : oR.data = .cell (some (.bytes b tb))) (hb : KBw.bInts b = [r0, r1, r2, r3]) (g0 : 0 ≤ r0 ∧ r0 < 17) (g1 : 0 ≤ r1 ∧ r1 < 17) (g2 : 0 ≤ r2 ∧ r2 < 17) (g3 : 0 ≤ r3 ∧ r3 < 17) (hF : FullIn news)
    (next : ∀ t h' tk', Fr h₀ L h' (fun y => if y = ("whole" : PySem.Str) then some (.int (prod_val r0 r1 r2 r3) t) else m y) → News h₀ L h' news →
      wpP (model PySem.Challenge.rw_ic0006_01.row.prog w) (ktrTop dp un gd "law" lawCs L 107 (.ref 106) (lawCl L) outer) (execs (lawRest 4) (lawEnv L)) Q E { s with heap := h', toks := tk' }) :
    wpP (model PySem.Challenge.rw_ic0006_01.row.prog w) (ktrTop dp un gd "law" lawCs L 107 (.ref 106) (lawCl L) outer) (execs (lawRest 3) (lawEnv L)) Q E s := by
  show wpP _ (ktrTop _ _ _ _ { kind := _, names := _, isGenerator := _, isCoroutine := _, more := _ } _ _ _ _ _) (execs (_ :: _) (envX _ { kind := _, names := _, isGenerator := _, isCoroutine := _, more := _ } _ _ _ _)) _ _ _
  refine wpP_consAny ?_
  k_fold
  k_steps
  exact next _ _ _ (by k_asm) (by k_asm)

end
section
local macro_rules | `(tactic| walk_at "mymem") => `(tactic| repeat' (first | exact List.mem_cons_self .. | assumption | (refine (by assumption : ∀ q ∈ _, q ∈ _) _ ?_) | refine List.mem_cons_of_mem _ ?_))
local macro_rules | `(tactic| walk_at "eval Name") => `(tactic| (k_here; (with_reducible show wpAny _ _ (eval (Expr.Name _ _) (compEnvC _ _ _ _)) _ _ _); k_dflt (first
  | (refine' lcf_cell ?N ?c ?m ?d ?_ ?a ?b; (case a => rfl); (case b => rfl); (case N => k_asm); (case c => rfl); (case m => walk_at "mymem"); (case d => assumption))
  | (refine' lcf_free ?N ?c ?m ?d ?_ ?a ?b; (case a => rfl); (case b => rfl); (case N => k_asm); (case c => rfl); (case m => walk_at "mymem"); (case d => assumption))
  | refine LCgL.ld_own (by k_asm) (by walk_at "mymem") (by assumption) (by assumption) ?_
  | fail "my name")))
local macro_rules | `(tactic| walk_at "eval ListComp") => `(tactic| (k_here; refine Stop.go ?_))
local macro_rules | `(tactic| walk_at "call ref") => `(tactic| (k_here; (with_reducible show wpAny _ _ (call (Value.ref 70) _) _ _ _); refine Stop.go ?_))
set_option maxRecDepth 100000 in
set_option maxHeartbeats 2000000 in
theorem seg4 {w : World} {p : Program} {loose : List PySem.Str} {mean : ExcName → Option Value} {mg mb : PySem.Str → Option Value}
   {dp un : Nat} {gd : Option (List Code)} {outer : List Env} {A₀ : Around} {base h₀ : Heap} {L : Addr} {m : PySem.Str → Option Value} {s : Shared} {Q : Flow → Shared → Prop} {E : Value → Shared → Prop}
   {news : List (Addr × Obj)} {oR : Obj} {b : Array UInt8} {tb : Tok} {r0 r1 r2 r3 : Int} {tw : Tok}
    (B : Below A₀ base outer h₀) (F : Fr h₀ L s.heap (fun y => if y = ("whole" : PySem.Str) then some (.int (prod_val r0 r1 r2 r3) tw) else m y)) (X : (hd.heap_1 w.params).In h₀) (N : News h₀ L s.heap news) (T : Top p loose mean mg mb h₀) (C1 : CodeHd base 34 30) (C2 : CodeHd base 41 37) (hdp : dp + 400 < recursionLimit) (hun : un + 2500 < cLine)
    (hRow : (L + 1, oR) ∈ news) (dR : oR.data = .cell (some (.bytes b tb))) (hb : KBw.bInts b = [r0, r1, r2, r3]) (g0 : 0 ≤ r0 ∧ r0 < 17) (g1 : 0 ≤ r1 ∧ r1 < 17) (g2 : 0 ≤ r2 ∧ r2 < 17) (g3 : 0 ≤ r3 ∧ r3 < 17) (hF : FullIn news)
    (next : ∀ news' h' tk', Fr h₀ L h' (fun y => if y = ("whole" : PySem.Str) then some (.int (prod_val r0 r1 r2 r3) tw) else m y) → News h₀ L h' news' → (∀ p ∈ news, p ∈ news') →
      wpP (model PySem.Challenge.rw_ic0006_01.row.prog w) (ktrTop dp un gd "law" lawCs L 107 (.ref 106) (lawCl L) outer) (execs (lawRest 5) (lawEnv L)) Q E { s with heap := h', toks := tk' }) :
    wpP (model PySem.Challenge.rw_ic0006_01.row.prog w) (ktrTop dp un gd "law" lawCs L 107 (.ref 106) (lawCl L) outer) (execs (lawRest 4) (lawEnv L)) Q E s := by
  show wpP _ (ktrTop _ _ _ _ { kind := _, names := _, isGenerator := _, isCoroutine := _, more := _ } _ _ _ _ _) (execs (_ :: _) (envX _ { kind := _, names := _, isGenerator := _, isCoroutine := _, more := _ } _ _ _ _)) _ _ _
  have hdet := plain_det g0 g1 g2 g3
  have hbd := det_bound g0 g1 g2 g3
  have hpb := prod_bound (r0 := r0) (r1 := r1) (r2 := r2) (r3 := r3)
  refine wpP_consAny ?_
  k_fold
  k_steps
  refine Stop.mk ?_
  refine' lawrest ?gB ?gF ?gX ?gN ?gT rfl C1 C2 ?gf ?gd ?gu ?g0 ?g1 ?_
  case gB => k_asm
  case gF => k_asm
  case gX => k_asm
  case gN => k_asm
  case gT => k_asm
  case gf => walk_at "myfull"
  case gd => ktr_room
  case gu => ktr_units
  case g0 => omega
  case g1 => omega
  intro t7 h7 tk7 F7 N7
  rw [hdet]
  k_steps
  next => exact absurd rfl ‹prod_val r0 r1 r2 r3 ≠ prod_val r0 r1 r2 r3›
  refine Stop.mk ?_
  refine listCompV (by k_asm) (by rfl) (by decide) (by rfl) (by decide) (by rfl) ?_
  k_steps
  refine SrcOk.list (by rfl) (by k_asm) (by k_asm) (List.mem_cons_self ..) (Nat.le_of_ble_eq_true rfl) ⟨IInv (fun i => atv r0 r1 r2 r3 (rootAt i)) _, IInv.start, IInv.len, ?turn, ?fin⟩
  case turn =>
    intro i ys nw v I oI C oC D m2 h7 tk7 E7 hi hP hI hX hm2 F7 N7 off7 hne hS hIt
    have hsub := hI.1
    try simp only [List.cons_append, List.nil_append] at N7 hsub
    refine roots_at hP (fun r t hv hr hb4 hq hri => ?_)
    have hm3 := hm2.trans (congrArg some hv)
    k_steps
    refine TurnEnd.same (by k_asm) (by k_asm) (by walk_at "mysub2") off7 hS (IInv.step hI (fun _ h => h) (by show _ = atv r0 r1 r2 r3 (rootAt i); rw [rootAt_of hri]; rfl))
  case fin =>
    intro D ys nw h8 tk8 hI F8 N8 off8
    have hsub := hI.1
    have hlD := N8.isList (.head _)
    have hi8 := hI.2
    k_steps
    next =>
      (rename (_ != _) = true => ha)
      exact Bool.noConfusion ((plain_zero (r0 := r0) (r1 := r1) (r2 := r2) (r3 := r3)).symm.trans ha)
    exact next nw _ _ (by k_asm) (cb_drop (by k_asm) (by walk_at "mysub2")) (by walk_at "mysub2")

end
section
set_option maxRecDepth 100000 in
set_option maxHeartbeats 2000000 in
theorem seg5 {w : World} {p : Program} {loose : List PySem.Str} {mean : ExcName → Option Value} {mg mb : PySem.Str → Option Value}
   {dp un : Nat} {gd : Option (List Code)} {outer : List Env} {A₀ : Around} {base h₀ : Heap} {L : Addr} {m : PySem.Str → Option Value} {s : Shared} {Q : Flow → Shared → Prop} {E : Value → Shared → Prop}
   {news : List (Addr × Obj)} {oR : Obj} {b : Array UInt8} {tb : Tok} {r0 r1 r2 r3 : Int} {bo : Array UInt8} {to : Tok} {o0 o1 o2 o3 : Int} {tw : Tok}
    (B : Below A₀ base outer h₀) (F : Fr h₀ L s.heap (fun y => if y = ("whole" : PySem.Str) then some (.int (prod_val r0 r1 r2 r3) tw) else if y = ("other" : PySem.Str) then some (.bytes bo to) else m y)) (X : (hd.heap_1 w.params).In h₀) (N : News h₀ L s.heap news) (T : Top p loose mean mg mb h₀) (C1 : CodeHd base 34 30) (C2 : CodeHd base 41 37) (hdp : dp + 400 < recursionLimit) (hun : un + 2500 < cLine)
    (hRow : (L + 1, oR) ∈ news) (dR : oR.data = .cell (some (.bytes b tb))) (hb : KBw.bInts b = [r0, r1, r2, r3]) (g0 : 0 ≤ r0 ∧ r0 < 17) (g1 : 0 ≤ r1 ∧ r1 < 17) (g2 : 0 ≤ r2 ∧ r2 < 17) (g3 : 0 ≤ r3 ∧ r3 < 17) (hF : FullIn news) (hbo : KBw.bInts bo = [o0, o1, o2, o3]) (i0 : 0 ≤ o0 ∧ o0 < 17) (i1 : 0 ≤ o1 ∧ o1 < 17) (i2 : 0 ≤ o2 ∧ o2 < 17) (i3 : 0 ≤ o3 ∧ o3 < 17)
    (next : ∀ bb tbb h' tk', Fr h₀ L h' (fun y => if y = ("both" : PySem.Str) then some (.bytes bb tbb) else if y = ("whole" : PySem.Str) then some (.int (prod_val r0 r1 r2 r3) tw) else if y = ("other" : PySem.Str) then some (.bytes bo to) else m y) → News h₀ L h' news → KBw.bInts bb = round_val r0 r1 r2 r3 o0 o1 o2 o3 →
      wpP (model PySem.Challenge.rw_ic0006_01.row.prog w) (ktrTop dp un gd "law" lawCs L 107 (.ref 106) (lawCl L) outer) (execs (lawRest 6) (lawEnv L)) Q E { s with heap := h', toks := tk' }) :
    wpP (model PySem.Challenge.rw_ic0006_01.row.prog w) (ktrTop dp un gd "law" lawCs L 107 (.ref 106) (lawCl L) outer) (execs (lawRest 5) (lawEnv L)) Q E s := by
  show wpP _ (ktrTop _ _ _ _ { kind := _, names := _, isGenerator := _, isCoroutine := _, more := _ } _ _ _ _ _) (execs (_ :: _) (envX _ { kind := _, names := _, isGenerator := _, isCoroutine := _, more := _ } _ _ _ _)) _ _ _
  refine wpP_consAny ?_
  k_fold
  k_steps
  exact next _ _ _ _ (by k_asm) (by k_asm) (by assumption)

end
section
local macro_rules | `(tactic| walk_at "mymem") => `(tactic| repeat' (first | exact List.mem_cons_self .. | assumption | (refine (by assumption : ∀ q ∈ _, q ∈ _) _ ?_) | refine List.mem_cons_of_mem _ ?_))
local macro_rules | `(tactic| walk_at "eval Name") => `(tactic| (k_here; (with_reducible show wpAny _ _ (eval (Expr.Name _ _) (compEnvC _ _ _ _)) _ _ _); k_dflt (first
  | (refine' lcf_cell ?N ?c ?m ?d ?_ ?a ?b; (case a => rfl); (case b => rfl); (case N => k_asm); (case c => rfl); (case m => walk_at "mymem"); (case d => assumption))
  | (refine' lcf_free ?N ?c ?m ?d ?_ ?a ?b; (case a => rfl); (case b => rfl); (case N => k_asm); (case c => rfl); (case m => walk_at "mymem"); (case d => assumption))
  | refine LCgL.ld_own (by k_asm) (by walk_at "mymem") (by assumption) (by assumption) ?_
  | fail "my name")))
local macro_rules | `(tactic| walk_at "eval ListComp") => `(tactic| (k_here; refine Stop.go ?_))
local macro_rules | `(tactic| walk_at "compareOp NotEq bytes bytes") => `(tactic| (k_here; refine Stop.go ?_))
set_option maxRecDepth 100000 in
set_option maxHeartbeats 2000000 in
theorem seg6 {w : World} {p : Program} {loose : List PySem.Str} {mean : ExcName → Option Value} {mg mb : PySem.Str → Option Value}
   {dp un : Nat} {gd : Option (List Code)} {outer : List Env} {A₀ : Around} {base h₀ : Heap} {L : Addr} {m : PySem.Str → Option Value} {s : Shared} {Q : Flow → Shared → Prop} {E : Value → Shared → Prop}
   {news : List (Addr × Obj)} {oR : Obj} {b : Array UInt8} {tb : Tok} {r0 r1 r2 r3 : Int} {bo : Array UInt8} {to : Tok} {o0 o1 o2 o3 : Int} {bb : Array UInt8} {tbb : Tok} {v0 v1 v2 v3 : Int} {tw : Tok}
    (B : Below A₀ base outer h₀) (F : Fr h₀ L s.heap (fun y => if y = ("both" : PySem.Str) then some (.bytes bb tbb) else if y = ("whole" : PySem.Str) then some (.int (prod_val r0 r1 r2 r3) tw) else if y = ("other" : PySem.Str) then some (.bytes bo to) else m y)) (X : (hd.heap_1 w.params).In h₀) (N : News h₀ L s.heap news) (T : Top p loose mean mg mb h₀) (C1 : CodeHd base 34 30) (C2 : CodeHd base 41 37) (hdp : dp + 400 < recursionLimit) (hun : un + 2500 < cLine)
    (hRow : (L + 1, oR) ∈ news) (dR : oR.data = .cell (some (.bytes b tb))) (hb : KBw.bInts b = [r0, r1, r2, r3]) (g0 : 0 ≤ r0 ∧ r0 < 17) (g1 : 0 ≤ r1 ∧ r1 < 17) (g2 : 0 ≤ r2 ∧ r2 < 17) (g3 : 0 ≤ r3 ∧ r3 < 17) (hF : FullIn news) (hbo : KBw.bInts bo = [o0, o1, o2, o3]) (i0 : 0 ≤ o0 ∧ o0 < 17) (i1 : 0 ≤ o1 ∧ o1 < 17) (i2 : 0 ≤ o2 ∧ o2 < 17) (i3 : 0 ≤ o3 ∧ o3 < 17) (hbb : KBw.bInts bb = [v0, v1, v2, v3]) (hv : round_val r0 r1 r2 r3 o0 o1 o2 o3 = [v0, v1, v2, v3]) (j0 : 0 ≤ v0 ∧ v0 < 17) (j1 : 0 ≤ v1 ∧ v1 < 17) (j2 : 0 ≤ v2 ∧ v2 < 17) (j3 : 0 ≤ v3 ∧ v3 < 17)
    (next : ∀ news' h' tk', Fr h₀ L h' (fun y => if y = ("both" : PySem.Str) then some (.bytes bb tbb) else if y = ("whole" : PySem.Str) then some (.int (prod_val r0 r1 r2 r3) tw) else if y = ("other" : PySem.Str) then some (.bytes bo to) else m y) → News h₀ L h' news' → (∀ p ∈ news, p ∈ news') →
      wpP (model PySem.Challenge.rw_ic0006_01.row.prog w) (ktrTop dp un gd "law" lawCs L 107 (.ref 106) (lawCl L) outer) (execs (lawRest 7) (lawEnv L)) Q E { s with heap := h', toks := tk' }) :
    wpP (model PySem.Challenge.rw_ic0006_01.row.prog w) (ktrTop dp un gd "law" lawCs L 107 (.ref 106) (lawCl L) outer) (execs (lawRest 6) (lawEnv L)) Q E s := by
  show wpP _ (ktrTop _ _ _ _ { kind := _, names := _, isGenerator := _, isCoroutine := _, more := _ } _ _ _ _ _) (execs (_ :: _) (envX _ { kind := _, names := _, isGenerator := _, isCoroutine := _, more := _ } _ _ _ _)) _ _ _
  refine wpP_consAny ?_
  k_fold
  k_steps
  refine Stop.mk ?_
  (rename KBw.bInts _ = round_val o0 _ _ _ _ _ _ _ => hb9)
  refine ne_same hbb (hb9.trans (plain_comm.trans hv)) ?_
  k_steps
  refine Stop.mk ?_
  refine listCompV (by k_asm) (by rfl) (by decide) (by rfl) (by decide) (by rfl) ?_
  k_steps
  (rename RowsAre _ _ (table_val v0 v1 v2 v3) => hRb)
  refine SrcOk.list (by rfl) (by k_asm) (by k_asm) (List.mem_cons_self ..) (by rw [List.size_toArray, hRb.length]; exact Nat.le_of_ble_eq_true rfl) ⟨TInv (table_val v0 v1 v2 v3) _, TInv.start, TInv.len, ?turn, ?fin⟩
  case turn =>
    intro i ys nw v I oI C oC D m2 h7 tk7 E7 hi hP hI hX hm2 F7 N7 off7 hne hS hIt
    have hsub := hI.2.1
    try simp only [List.cons_append, List.nil_append] at N7 hsub
    refine RowsAre.getK hRb ((List.getElem?_toArray ..).symm.trans hP) (fun a2 vs2 e2 r2 hv2 hma2 hia2 hr2 hrm => ?_)
    have hm3 := hm2.trans (congrArg some hv2)
    have hl2 : h7.IsList a2 vs2.toArray := News.isList N7 (.tail _ (.tail _ (.tail _ (hsub _ (.tail _ hma2)))))
    have hlr : r2.length = 4 := table_len4 r2 hrm
    k_steps
    rename News _ _ _ ((_, W.listOf vs2.toArray _) :: (I, _) :: _) => N4
    exact TurnEnd.add (by k_asm) N4 (by walk_at "mysub2") (by k_all) off7 (hS.imp id fun ⟨o, hm, r⟩ => ⟨o, .tail _ hm, r⟩) (TInv.step hI (fun _ h => .tail _ h) (.head _) hia2 hr2)
  case fin =>
    intro D ys nw h8 tk8 hI F8 N8 off8
    have hsub := hI.2.1
    have hRc : RowsAre nw ys (table_val v0 v1 v2 v3) := by
      have h := hI.2.2
      rw [List.take_of_length_le (by rw [List.size_toArray, hRb.length]; exact Nat.le_refl _)] at h
      exact h
    (rename RowsAre _ _ (taken_val _ _) => hRt)
    k_steps
    refine rowsNe N8 (List.mem_cons_self ..) (hRt.mono fun _ h => .tail _ h) (by walk_at "mysub2") (List.mem_cons_self ..) (hRc.mono fun _ h => .tail _ h) (fun _ h => h) (by ke_room) ?_
    rw [plain_taken hv]
    k_steps
    exact next nw _ _ (by k_asm) (cb_drop (by k_asm) (by walk_at "mysub2")) (by walk_at "mysub2")

end
section
local macro_rules | `(tactic| walk_at "call ref") => `(tactic| (k_here; (with_reducible show wpAny _ _ (call (Value.ref 70) _) _ _ _); refine Stop.go ?_))
set_option maxRecDepth 100000 in
set_option maxHeartbeats 2000000 in
theorem seg7 {w : World} {p : Program} {loose : List PySem.Str} {mean : ExcName → Option Value} {mg mb : PySem.Str → Option Value}
   {dp un : Nat} {gd : Option (List Code)} {outer : List Env} {A₀ : Around} {base h₀ : Heap} {L : Addr} {m : PySem.Str → Option Value} {s : Shared} {Q : Flow → Shared → Prop} {E : Value → Shared → Prop}
   {news : List (Addr × Obj)} {oR : Obj} {b : Array UInt8} {tb : Tok} {r0 r1 r2 r3 : Int} {bo : Array UInt8} {to : Tok} {o0 o1 o2 o3 : Int} {bb : Array UInt8} {tbb : Tok} {v0 v1 v2 v3 : Int} {tw : Tok}
    (B : Below A₀ base outer h₀) (F : Fr h₀ L s.heap (fun y => if y = ("both" : PySem.Str) then some (.bytes bb tbb) else if y = ("whole" : PySem.Str) then some (.int (prod_val r0 r1 r2 r3) tw) else if y = ("other" : PySem.Str) then some (.bytes bo to) else m y)) (X : (hd.heap_1 w.params).In h₀) (N : News h₀ L s.heap news) (T : Top p loose mean mg mb h₀) (C1 : CodeHd base 34 30) (C2 : CodeHd base 41 37) (hdp : dp + 400 < recursionLimit) (hun : un + 2500 < cLine)
    (hRow : (L + 1, oR) ∈ news) (dR : oR.data = .cell (some (.bytes b tb))) (hb : KBw.bInts b = [r0, r1, r2, r3]) (g0 : 0 ≤ r0 ∧ r0 < 17) (g1 : 0 ≤ r1 ∧ r1 < 17) (g2 : 0 ≤ r2 ∧ r2 < 17) (g3 : 0 ≤ r3 ∧ r3 < 17) (hF : FullIn news) (hbo : KBw.bInts bo = [o0, o1, o2, o3]) (i0 : 0 ≤ o0 ∧ o0 < 17) (i1 : 0 ≤ o1 ∧ o1 < 17) (i2 : 0 ≤ o2 ∧ o2 < 17) (i3 : 0 ≤ o3 ∧ o3 < 17) (hbb : KBw.bInts bb = [v0, v1, v2, v3]) (hv : round_val r0 r1 r2 r3 o0 o1 o2 o3 = [v0, v1, v2, v3]) (j0 : 0 ≤ v0 ∧ v0 < 17) (j1 : 0 ≤ v1 ∧ v1 < 17) (j2 : 0 ≤ v2 ∧ v2 < 17) (j3 : 0 ≤ v3 ∧ v3 < 17)
    (next : ∀ h' tk', Fr h₀ L h' (fun y => if y = ("both" : PySem.Str) then some (.bytes bb tbb) else if y = ("whole" : PySem.Str) then some (.int (prod_val r0 r1 r2 r3) tw) else if y = ("other" : PySem.Str) then some (.bytes bo to) else m y) → News h₀ L h' news →
      wpP (model PySem.Challenge.rw_ic0006_01.row.prog w) (ktrTop dp un gd "law" lawCs L 107 (.ref 106) (lawCl L) outer) (execs (lawRest 8) (lawEnv L)) Q E { s with heap := h', toks := tk' }) :
    wpP (model PySem.Challenge.rw_ic0006_01.row.prog w) (ktrTop dp un gd "law" lawCs L 107 (.ref 106) (lawCl L) outer) (execs (lawRest 7) (lawEnv L)) Q E s := by
  show wpP _ (ktrTop _ _ _ _ { kind := _, names := _, isGenerator := _, isCoroutine := _, more := _ } _ _ _ _ _) (execs (_ :: _) (envX _ { kind := _, names := _, isGenerator := _, isCoroutine := _, more := _ } _ _ _ _)) _ _ _
  have hpb := prod_bound (r0 := r0) (r1 := r1) (r2 := r2) (r3 := r3)
  have hpo := prod_bound (r0 := o0) (r1 := o1) (r2 := o2) (r3 := o3)
  have hmb := mul_le hpb.1 hpo.1 (A := 16) (B := 16) (by omega) (by omega)
  refine wpP_consAny ?_
  k_fold
  k_steps
  refine Stop.mk ?_
  refine' lawrest ?gB ?gF ?gX ?gN ?gT rfl C1 C2 ?gf ?gd ?gu ?g0 ?g1 ?_
  case gB => k_asm
  case gF => k_asm
  case gX => k_asm
  case gN => k_asm
  case gT => k_asm
  case gf => walk_at "myfull"
  case gd => ktr_room
  case gu => ktr_units
  case g0 => omega
  case g1 => omega
  intro t7 h7 tk7 F7 N7
  rw [plain_mult hv]
  k_steps
  next => exact absurd rfl ‹prod_val v0 v1 v2 v3 ≠ prod_val v0 v1 v2 v3›
  exact next _ _ (by k_asm) (by k_asm)

end
section
set_option maxRecDepth 100000 in
set_option maxHeartbeats 2000000 in
theorem seg8 {w : World} {p : Program} {loose : List PySem.Str} {mean : ExcName → Option Value} {mg mb : PySem.Str → Option Value}
   {dp un : Nat} {gd : Option (List Code)} {outer : List Env} {A₀ : Around} {base h₀ : Heap} {L : Addr} {m : PySem.Str → Option Value} {s : Shared} {Q : Flow → Shared → Prop} {E : Value → Shared → Prop}
   {news : List (Addr × Obj)} {oR : Obj} {b : Array UInt8} {tb : Tok} {r0 r1 r2 r3 : Int}
    (B : Below A₀ base outer h₀) (F : Fr h₀ L s.heap (fun y => m y)) (X : (hd.heap_1 w.params).In h₀) (N : News h₀ L s.heap news) (T : Top p loose mean mg mb h₀) (C1 : CodeHd base 34 30) (C2 : CodeHd base 41 37) (hdp : dp + 400 < recursionLimit) (hun : un + 2500 < cLine)
    (hRow : (L + 1, oR) ∈ news) (dR : oR.data = .cell (some (.bytes b tb))) (hb : KBw.bInts b = [r0, r1, r2, r3]) (g0 : 0 ≤ r0 ∧ r0 < 17) (g1 : 0 ≤ r1 ∧ r1 < 17) (g2 : 0 ≤ r2 ∧ r2 < 17) (g3 : 0 ≤ r3 ∧ r3 < 17) (hF : FullIn news)
    (next : ∀ bg tg h' tk', Fr h₀ L h' (fun y => if y = ("groups" : PySem.Str) then some (.bytes bg tg) else m y) → News h₀ L h' news → KBw.bInts bg = [r1, r0, r3, r2] →
      wpP (model PySem.Challenge.rw_ic0006_01.row.prog w) (ktrTop dp un gd "law" lawCs L 107 (.ref 106) (lawCl L) outer) (execs (lawRest 9) (lawEnv L)) Q E { s with heap := h', toks := tk' }) :
    wpP (model PySem.Challenge.rw_ic0006_01.row.prog w) (ktrTop dp un gd "law" lawCs L 107 (.ref 106) (lawCl L) outer) (execs (lawRest 8) (lawEnv L)) Q E s := by
  show wpP _ (ktrTop _ _ _ _ { kind := _, names := _, isGenerator := _, isCoroutine := _, more := _ } _ _ _ _ _) (execs (_ :: _) (envX _ { kind := _, names := _, isGenerator := _, isCoroutine := _, more := _ } _ _ _ _)) _ _ _
  obtain ⟨o63, fd63, ho63, hf63⟩ : ∃ o fd, (hd.heap_1 w.params).lookup 63 = some o ∧ o.data = .func fd := ⟨_, _, rfl, rfl⟩
  refine wpP_cons (wpP_Assign (wpP_callName ?_))
  k_fold
  k_steps
  refine wpP_callFn1 (o := o63) (fd := fd63) ?_
  k_fold
  k_steps
  next => exact (X.keeps (Fr.keep F)) _ _ ho63
  refine' byteswap2 ?gB ?gF ?gX ?gN ?gT rfl ?gd ?gu hb g0 g1 g2 g3 ?_
  case gB => k_asm
  case gF => k_asm
  case gX => k_asm
  case gN => k_asm
  case gT => k_asm
  case gd => ktr_room
  case gu => ktr_units
  intro b9 t9 h9 tk9 F9 N9 hb9
  k_steps
  exact next _ _ _ _ (by k_asm) (by k_asm) hb9

end
section
local macro_rules | `(tactic| walk_at "compareOp NotEq bytes bytes") => `(tactic| (k_here; refine Stop.go ?_))
set_option maxRecDepth 100000 in
set_option maxHeartbeats 2000000 in
theorem seg9 {w : World} {p : Program} {loose : List PySem.Str} {mean : ExcName → Option Value} {mg mb : PySem.Str → Option Value}
   {dp un : Nat} {gd : Option (List Code)} {outer : List Env} {A₀ : Around} {base h₀ : Heap} {L : Addr} {m : PySem.Str → Option Value} {s : Shared} {Q : Flow → Shared → Prop} {E : Value → Shared → Prop}
   {news : List (Addr × Obj)} {oR : Obj} {b : Array UInt8} {tb : Tok} {r0 r1 r2 r3 : Int} {bg : Array UInt8} {tg : Tok}
    (B : Below A₀ base outer h₀) (F : Fr h₀ L s.heap (fun y => if y = ("groups" : PySem.Str) then some (.bytes bg tg) else m y)) (X : (hd.heap_1 w.params).In h₀) (N : News h₀ L s.heap news) (T : Top p loose mean mg mb h₀) (C1 : CodeHd base 34 30) (C2 : CodeHd base 41 37) (hdp : dp + 400 < recursionLimit) (hun : un + 2500 < cLine)
    (hRow : (L + 1, oR) ∈ news) (dR : oR.data = .cell (some (.bytes b tb))) (hb : KBw.bInts b = [r0, r1, r2, r3]) (g0 : 0 ≤ r0 ∧ r0 < 17) (g1 : 0 ≤ r1 ∧ r1 < 17) (g2 : 0 ≤ r2 ∧ r2 < 17) (g3 : 0 ≤ r3 ∧ r3 < 17) (hF : FullIn news) (hbg : KBw.bInts bg = [r1, r0, r3, r2])
    (next : ∀ h' tk', Fr h₀ L h' (fun y => if y = ("groups" : PySem.Str) then some (.bytes bg tg) else m y) → News h₀ L h' news →
      wpP (model PySem.Challenge.rw_ic0006_01.row.prog w) (ktrTop dp un gd "law" lawCs L 107 (.ref 106) (lawCl L) outer) (execs (lawRest 10) (lawEnv L)) Q E { s with heap := h', toks := tk' }) :
    wpP (model PySem.Challenge.rw_ic0006_01.row.prog w) (ktrTop dp un gd "law" lawCs L 107 (.ref 106) (lawCl L) outer) (execs (lawRest 9) (lawEnv L)) Q E s := by
  show wpP _ (ktrTop _ _ _ _ { kind := _, names := _, isGenerator := _, isCoroutine := _, more := _ } _ _ _ _ _) (execs (_ :: _) (envX _ { kind := _, names := _, isGenerator := _, isCoroutine := _, more := _ } _ _ _ _)) _ _ _
  obtain ⟨o63, fd63, ho63, hf63⟩ : ∃ o fd, (hd.heap_1 w.params).lookup 63 = some o ∧ o.data = .func fd := ⟨_, _, rfl, rfl⟩
  refine wpP_cons (wpP_If (wpP_or ?_))
  k_fold
  k_steps
  refine Stop.mk ?_
  refine ne_same hbg (show KBw.bInts (byteArr [r1, r0, r3, r2]) = _ from KBa.ints_make (in4 g1 g0 g3 g2)) ?_
  k_steps
  refine wpP_isCompare ?_
  refine wpP_callName ?_
  k_fold
  k_steps
  refine wpP_callFn1 (o := o63) (fd := fd63) ?_
  k_fold
  k_steps
  next => exact (X.keeps (Fr.keep (by k_asm))) _ _ ho63
  refine' byteswap2 ?gB ?gF ?gX ?gN ?gT rfl ?gd ?gu hbg g1 g0 g3 g2 ?_
  case gB => k_asm
  case gF => k_asm
  case gX => k_asm
  case gN => k_asm
  case gT => k_asm
  case gd => ktr_room
  case gu => ktr_units
  intro b9 t9 h9 tk9 F9 N9 hb9
  k_steps
  refine Stop.mk ?_
  refine ne_same hb9 hb ?_
  k_steps
  exact next _ _ (by k_asm) (cb_drop (by k_asm) (by walk_at "mysub2"))

end
section
set_option maxRecDepth 100000 in
set_option maxHeartbeats 2000000 in
theorem seg10 {w : World} {p : Program} {loose : List PySem.Str} {mean : ExcName → Option Value} {mg mb : PySem.Str → Option Value}
   {dp un : Nat} {gd : Option (List Code)} {outer : List Env} {A₀ : Around} {base h₀ : Heap} {L : Addr} {m : PySem.Str → Option Value} {s : Shared} {Q : Flow → Shared → Prop} {E : Value → Shared → Prop}
   {news : List (Addr × Obj)} {oR : Obj} {b : Array UInt8} {tb : Tok} {r0 r1 r2 r3 : Int} {bg : Array UInt8} {tg : Tok}
    (B : Below A₀ base outer h₀) (F : Fr h₀ L s.heap (fun y => if y = ("groups" : PySem.Str) then some (.bytes bg tg) else m y)) (X : (hd.heap_1 w.params).In h₀) (N : News h₀ L s.heap news) (T : Top p loose mean mg mb h₀) (C1 : CodeHd base 34 30) (C2 : CodeHd base 41 37) (hdp : dp + 400 < recursionLimit) (hun : un + 2500 < cLine)
    (hRow : (L + 1, oR) ∈ news) (dR : oR.data = .cell (some (.bytes b tb))) (hb : KBw.bInts b = [r0, r1, r2, r3]) (g0 : 0 ≤ r0 ∧ r0 < 17) (g1 : 0 ≤ r1 ∧ r1 < 17) (g2 : 0 ≤ r2 ∧ r2 < 17) (g3 : 0 ≤ r3 ∧ r3 < 17) (hF : FullIn news) (hbg : KBw.bInts bg = [r1, r0, r3, r2])
    (next : ∀ De te tf h' tk', Fr h₀ L h' (fun y => if y = ("even" : PySem.Str) then some (.ref De) else if y = ("groups" : PySem.Str) then some (.bytes bg tg) else m y) → News h₀ L h' ((De, W.listOf #[.int ((r0 + r2) % 17) te, .int ((r1 + r3) % 17) tf] 0) :: news) →
      wpP (model PySem.Challenge.rw_ic0006_01.row.prog w) (ktrTop dp un gd "law" lawCs L 107 (.ref 106) (lawCl L) outer) (execs (lawRest 11) (lawEnv L)) Q E { s with heap := h', toks := tk' }) :
    wpP (model PySem.Challenge.rw_ic0006_01.row.prog w) (ktrTop dp un gd "law" lawCs L 107 (.ref 106) (lawCl L) outer) (execs (lawRest 10) (lawEnv L)) Q E s := by
  show wpP _ (ktrTop _ _ _ _ { kind := _, names := _, isGenerator := _, isCoroutine := _, more := _ } _ _ _ _ _) (execs (_ :: _) (envX _ { kind := _, names := _, isGenerator := _, isCoroutine := _, more := _ } _ _ _ _)) _ _ _
  refine wpP_consAny ?_
  k_fold
  k_steps
  exact next _ _ _ _ _ (by k_asm) (by k_asm)

end
section
set_option maxRecDepth 100000 in
set_option maxHeartbeats 2000000 in
theorem seg11 {w : World} {p : Program} {loose : List PySem.Str} {mean : ExcName → Option Value} {mg mb : PySem.Str → Option Value}
   {dp un : Nat} {gd : Option (List Code)} {outer : List Env} {A₀ : Around} {base h₀ : Heap} {L : Addr} {m : PySem.Str → Option Value} {s : Shared} {Q : Flow → Shared → Prop} {E : Value → Shared → Prop}
   {news : List (Addr × Obj)} {oR : Obj} {b : Array UInt8} {tb : Tok} {r0 r1 r2 r3 : Int} {bg : Array UInt8} {tg : Tok} {De : Addr}
    (B : Below A₀ base outer h₀) (F : Fr h₀ L s.heap (fun y => if y = ("even" : PySem.Str) then some (.ref De) else if y = ("groups" : PySem.Str) then some (.bytes bg tg) else m y)) (X : (hd.heap_1 w.params).In h₀) (N : News h₀ L s.heap news) (T : Top p loose mean mg mb h₀) (C1 : CodeHd base 34 30) (C2 : CodeHd base 41 37) (hdp : dp + 400 < recursionLimit) (hun : un + 2500 < cLine)
    (hRow : (L + 1, oR) ∈ news) (dR : oR.data = .cell (some (.bytes b tb))) (hb : KBw.bInts b = [r0, r1, r2, r3]) (g0 : 0 ≤ r0 ∧ r0 < 17) (g1 : 0 ≤ r1 ∧ r1 < 17) (g2 : 0 ≤ r2 ∧ r2 < 17) (g3 : 0 ≤ r3 ∧ r3 < 17) (hF : FullIn news) (hbg : KBw.bInts bg = [r1, r0, r3, r2])
    (next : ∀ Do tg2 th h' tk', Fr h₀ L h' (fun y => if y = ("odd" : PySem.Str) then some (.ref Do) else if y = ("even" : PySem.Str) then some (.ref De) else if y = ("groups" : PySem.Str) then some (.bytes bg tg) else m y) → News h₀ L h' ((Do, W.listOf #[.int (r0 - r2) tg2, .int (r1 - r3) th] 0) :: news) →
      wpP (model PySem.Challenge.rw_ic0006_01.row.prog w) (ktrTop dp un gd "law" lawCs L 107 (.ref 106) (lawCl L) outer) (execs (lawRest 12) (lawEnv L)) Q E { s with heap := h', toks := tk' }) :
    wpP (model PySem.Challenge.rw_ic0006_01.row.prog w) (ktrTop dp un gd "law" lawCs L 107 (.ref 106) (lawCl L) outer) (execs (lawRest 11) (lawEnv L)) Q E s := by
  show wpP _ (ktrTop _ _ _ _ { kind := _, names := _, isGenerator := _, isCoroutine := _, more := _ } _ _ _ _ _) (execs (_ :: _) (envX _ { kind := _, names := _, isGenerator := _, isCoroutine := _, more := _ } _ _ _ _)) _ _ _
  refine wpP_consAny ?_
  k_fold
  k_steps
  exact next _ _ _ _ _ (by k_asm) (by k_asm)

end
section
local macro_rules | `(tactic| walk_at "call ref") => `(tactic| (k_here; (with_reducible show wpAny _ _ (call (Value.ref 70) _) _ _ _); refine Stop.go ?_))
set_option maxRecDepth 100000 in
set_option maxHeartbeats 2000000 in
theorem seg12 {w : World} {p : Program} {loose : List PySem.Str} {mean : ExcName → Option Value} {mg mb : PySem.Str → Option Value}
   {dp un : Nat} {gd : Option (List Code)} {outer : List Env} {A₀ : Around} {base h₀ : Heap} {L : Addr} {m : PySem.Str → Option Value} {s : Shared} {Q : Flow → Shared → Prop} {E : Value → Shared → Prop}
   {news : List (Addr × Obj)} {oR : Obj} {b : Array UInt8} {tb : Tok} {r0 r1 r2 r3 : Int} {bg : Array UInt8} {tg : Tok} {bb : Array UInt8} {tbb tw te tf tg2 th : Tok} {De Do : Addr}
    (B : Below A₀ base outer h₀) (F : Fr h₀ L s.heap (fun y => if y = ("odd" : PySem.Str) then some (.ref Do) else if y = ("even" : PySem.Str) then some (.ref De) else if y = ("groups" : PySem.Str) then some (.bytes bg tg) else if y = ("both" : PySem.Str) then some (.bytes bb tbb) else if y = ("whole" : PySem.Str) then some (.int (prod_val r0 r1 r2 r3) tw) else m y)) (X : (hd.heap_1 w.params).In h₀) (N : News h₀ L s.heap ((Do, W.listOf #[.int (r0 - r2) tg2, .int (r1 - r3) th] 0) :: (De, W.listOf #[.int ((r0 + r2) % 17) te, .int ((r1 + r3) % 17) tf] 0) :: news)) (T : Top p loose mean mg mb h₀) (C1 : CodeHd base 34 30) (C2 : CodeHd base 41 37) (hdp : dp + 400 < recursionLimit) (hun : un + 2500 < cLine)
    (hRow : (L + 1, oR) ∈ news) (dR : oR.data = .cell (some (.bytes b tb))) (hb : KBw.bInts b = [r0, r1, r2, r3]) (g0 : 0 ≤ r0 ∧ r0 < 17) (g1 : 0 ≤ r1 ∧ r1 < 17) (g2 : 0 ≤ r2 ∧ r2 < 17) (g3 : 0 ≤ r3 ∧ r3 < 17) (hF : FullIn news) (hbg : KBw.bInts bg = [r1, r0, r3, r2])
    (next : ∀ h' tk', Fr h₀ L h' (fun y => if y = ("odd" : PySem.Str) then some (.ref Do) else if y = ("even" : PySem.Str) then some (.ref De) else if y = ("groups" : PySem.Str) then some (.bytes bg tg) else if y = ("both" : PySem.Str) then some (.bytes bb tbb) else if y = ("whole" : PySem.Str) then some (.int (prod_val r0 r1 r2 r3) tw) else m y) → News h₀ L h' ((Do, W.listOf #[.int (r0 - r2) tg2, .int (r1 - r3) th] 0) :: (De, W.listOf #[.int ((r0 + r2) % 17) te, .int ((r1 + r3) % 17) tf] 0) :: news) →
      wpP (model PySem.Challenge.rw_ic0006_01.row.prog w) (ktrTop dp un gd "law" lawCs L 107 (.ref 106) (lawCl L) outer) (execs (lawRest 13) (lawEnv L)) Q E { s with heap := h', toks := tk' }) :
    wpP (model PySem.Challenge.rw_ic0006_01.row.prog w) (ktrTop dp un gd "law" lawCs L 107 (.ref 106) (lawCl L) outer) (execs (lawRest 12) (lawEnv L)) Q E s := by
  show wpP _ (ktrTop _ _ _ _ { kind := _, names := _, isGenerator := _, isCoroutine := _, more := _ } _ _ _ _ _) (execs (_ :: _) (envX _ { kind := _, names := _, isGenerator := _, isCoroutine := _, more := _ } _ _ _ _)) _ _ _
  have hpb := prod_bound (r0 := r0) (r1 := r1) (r2 := r2) (r3 := r3)
  have hhb := halves_bound g0 g1 g2 g3
  refine wpP_consAny ?_
  k_fold
  k_steps
  refine Stop.mk ?_
  refine' lawrestV (plain_halves (r0 := r0) (r1 := r1) (r2 := r2) (r3 := r3)) ?gB ?gF ?gX ?gN ?gT rfl C1 C2 ?gf ?gd ?gu ?g0 ?g1 ?_
  case gB => k_asm
  case gF => k_asm
  case gX => k_asm
  case gN => k_asm
  case gT => k_asm
  case gf => walk_at "myfull"
  case gd => ktr_room
  case gu => ktr_units
  case g0 => exact Int.le_trans (by decide) hhb.1
  case g1 => exact Int.lt_of_le_of_lt hhb.2 (by decide)
  intro t7 h7 tk7 F7 N7
  k_steps
  next => exact absurd rfl ‹prod_val r0 r1 r2 r3 ≠ prod_val r0 r1 r2 r3›
  exact next _ _ (by k_asm) (by k_asm)

end
section
set_option maxRecDepth 100000 in
set_option maxHeartbeats 2000000 in
theorem seg13 {w : World} {p : Program} {loose : List PySem.Str} {mean : ExcName → Option Value} {mg mb : PySem.Str → Option Value}
   {dp un : Nat} {gd : Option (List Code)} {outer : List Env} {A₀ : Around} {base h₀ : Heap} {L : Addr} {m : PySem.Str → Option Value} {s : Shared} {Q : Flow → Shared → Prop} {E : Value → Shared → Prop}
   {news : List (Addr × Obj)} {oR : Obj} {b : Array UInt8} {tb : Tok} {r0 r1 r2 r3 : Int}
    (B : Below A₀ base outer h₀) (F : Fr h₀ L s.heap (fun y => m y)) (X : (hd.heap_1 w.params).In h₀) (N : News h₀ L s.heap news) (T : Top p loose mean mg mb h₀) (C1 : CodeHd base 34 30) (C2 : CodeHd base 41 37) (hdp : dp + 400 < recursionLimit) (hun : un + 2500 < cLine)
    (hRow : (L + 1, oR) ∈ news) (dR : oR.data = .cell (some (.bytes b tb))) (hb : KBw.bInts b = [r0, r1, r2, r3]) (g0 : 0 ≤ r0 ∧ r0 < 17) (g1 : 0 ≤ r1 ∧ r1 < 17) (g2 : 0 ≤ r2 ∧ r2 < 17) (g3 : 0 ≤ r3 ∧ r3 < 17) (hF : FullIn news)
    (next : ∀ bt tt h' tk', Fr h₀ L h' (fun y => if y = ("turned" : PySem.Str) then some (.bytes bt tt) else m y) → News h₀ L h' news → KBw.bInts bt = [r3, r2, r1, r0] →
      wpP (model PySem.Challenge.rw_ic0006_01.row.prog w) (ktrTop dp un gd "law" lawCs L 107 (.ref 106) (lawCl L) outer) (execs (lawRest 14) (lawEnv L)) Q E { s with heap := h', toks := tk' }) :
    wpP (model PySem.Challenge.rw_ic0006_01.row.prog w) (ktrTop dp un gd "law" lawCs L 107 (.ref 106) (lawCl L) outer) (execs (lawRest 13) (lawEnv L)) Q E s := by
  show wpP _ (ktrTop _ _ _ _ { kind := _, names := _, isGenerator := _, isCoroutine := _, more := _ } _ _ _ _ _) (execs (_ :: _) (envX _ { kind := _, names := _, isGenerator := _, isCoroutine := _, more := _ } _ _ _ _)) _ _ _
  obtain ⟨o63, fd63, ho63, hf63⟩ : ∃ o fd, (hd.heap_1 w.params).lookup 63 = some o ∧ o.data = .func fd := ⟨_, _, rfl, rfl⟩
  refine wpP_cons (wpP_Assign (wpP_callName ?_))
  k_fold
  k_steps
  refine wpP_callFn1 (o := o63) (fd := fd63) ?_
  k_fold
  k_steps
  next => exact (X.keeps (Fr.keep F)) _ _ ho63
  refine' byteswap4 ?gB ?gF ?gX ?gN ?gT rfl ?gd ?gu hb g0 g1 g2 g3 ?_
  case gB => k_asm
  case gF => k_asm
  case gX => k_asm
  case gN => k_asm
  case gT => k_asm
  case gd => ktr_room
  case gu => ktr_units
  intro b9 t9 h9 tk9 F9 N9 hb9
  k_steps
  exact next _ _ _ _ (by k_asm) (by k_asm) hb9

end
section
local macro_rules | `(tactic| walk_at "compareOp NotEq bytes bytes") => `(tactic| (k_here; refine Stop.go ?_))
set_option maxRecDepth 100000 in
set_option maxHeartbeats 2000000 in
theorem seg14 {w : World} {p : Program} {loose : List PySem.Str} {mean : ExcName → Option Value} {mg mb : PySem.Str → Option Value}
   {dp un : Nat} {gd : Option (List Code)} {outer : List Env} {A₀ : Around} {base h₀ : Heap} {L : Addr} {m : PySem.Str → Option Value} {s : Shared} {Q : Flow → Shared → Prop} {E : Value → Shared → Prop}
   {news : List (Addr × Obj)} {oR : Obj} {b : Array UInt8} {tb : Tok} {r0 r1 r2 r3 : Int} {bt bg bb : Array UInt8} {tt tg tbb tw : Tok} {De Do : Addr}
    (B : Below A₀ base outer h₀) (F : Fr h₀ L s.heap (fun y => if y = ("turned" : PySem.Str) then some (.bytes bt tt) else if y = ("odd" : PySem.Str) then some (.ref Do) else if y = ("even" : PySem.Str) then some (.ref De) else if y = ("groups" : PySem.Str) then some (.bytes bg tg) else if y = ("both" : PySem.Str) then some (.bytes bb tbb) else if y = ("whole" : PySem.Str) then some (.int (prod_val r0 r1 r2 r3) tw) else m y)) (X : (hd.heap_1 w.params).In h₀) (N : News h₀ L s.heap news) (T : Top p loose mean mg mb h₀) (C1 : CodeHd base 34 30) (C2 : CodeHd base 41 37) (hdp : dp + 400 < recursionLimit) (hun : un + 2500 < cLine)
    (hRow : (L + 1, oR) ∈ news) (dR : oR.data = .cell (some (.bytes b tb))) (hb : KBw.bInts b = [r0, r1, r2, r3]) (g0 : 0 ≤ r0 ∧ r0 < 17) (g1 : 0 ≤ r1 ∧ r1 < 17) (g2 : 0 ≤ r2 ∧ r2 < 17) (g3 : 0 ≤ r3 ∧ r3 < 17) (hF : FullIn news) (hbt : KBw.bInts bt = [r3, r2, r1, r0])
    (next : ∀ h' tk', Fr h₀ L h' (fun y => if y = ("turned" : PySem.Str) then some (.bytes bt tt) else if y = ("odd" : PySem.Str) then some (.ref Do) else if y = ("even" : PySem.Str) then some (.ref De) else if y = ("groups" : PySem.Str) then some (.bytes bg tg) else if y = ("both" : PySem.Str) then some (.bytes bb tbb) else if y = ("whole" : PySem.Str) then some (.int (prod_val r0 r1 r2 r3) tw) else m y) → News h₀ L h' news →
      wpP (model PySem.Challenge.rw_ic0006_01.row.prog w) (ktrTop dp un gd "law" lawCs L 107 (.ref 106) (lawCl L) outer) (execs (lawRest 15) (lawEnv L)) Q E { s with heap := h', toks := tk' }) :
    wpP (model PySem.Challenge.rw_ic0006_01.row.prog w) (ktrTop dp un gd "law" lawCs L 107 (.ref 106) (lawCl L) outer) (execs (lawRest 14) (lawEnv L)) Q E s := by
  show wpP _ (ktrTop _ _ _ _ { kind := _, names := _, isGenerator := _, isCoroutine := _, more := _ } _ _ _ _ _) (execs (_ :: _) (envX _ { kind := _, names := _, isGenerator := _, isCoroutine := _, more := _ } _ _ _ _)) _ _ _
  refine wpP_consAny ?_
  k_fold
  k_steps
  refine listOfBytesK (by k_asm) (by k_asm) rfl hb (by show 4 ≤ 1000; decide) (fun D8 ws8 c8 h8 tk8 F8 N8 l8 hi8 => ?_)
  k_steps
  (rename IntsAre _ (List.reverse _) => hI9)
  rename News _ _ _ ((_, _) :: (D8, _) :: _) => N9
  refine KBa.make_K (ns := [r3, r2, r1, r0]) (by k_asm) N9 rfl (N9.isList (.head _)) hI9 (in4 g3 g2 g1 g0) (by show 4 ≤ 16777216; decide) ?_
  intro h6 t6 k6 F6 N6 _
  k_steps
  refine Stop.mk ?_
  refine ne_same hbt (KBa.ints_make (in4 g3 g2 g1 g0)) ?_
  k_steps
  next => exact absurd plain_turned ‹prod_val r0 r3 r2 r1 ≠ prod_val r0 r1 r2 r3›
  exact next _ _ (by k_asm) (cb_drop (by k_asm) (by walk_at "mysub2"))

end
section
local macro_rules | `(tactic| walk_at "mymem") => `(tactic| repeat' (first | exact List.mem_cons_self .. | assumption | (refine (by assumption : ∀ q ∈ _, q ∈ _) _ ?_) | refine List.mem_cons_of_mem _ ?_))
local macro_rules | `(tactic| walk_at "eval Name") => `(tactic| (k_here; (with_reducible show wpAny _ _ (eval (Expr.Name _ _) (compEnvC _ _ _ _)) _ _ _); k_dflt (first
  | (refine' lcf_cell ?N ?c ?m ?d ?_ ?a ?b; (case a => rfl); (case b => rfl); (case N => k_asm); (case c => rfl); (case m => walk_at "mymem"); (case d => assumption))
  | (refine' lcf_free ?N ?c ?m ?d ?_ ?a ?b; (case a => rfl); (case b => rfl); (case N => k_asm); (case c => rfl); (case m => walk_at "mymem"); (case d => assumption))
  | refine LCgL.ld_own (by k_asm) (by walk_at "mymem") (by assumption) (by assumption) ?_
  | fail "my name")))
local macro_rules | `(tactic| walk_at "compareOp NotEq bytes bytes") => `(tactic| (k_here; refine Stop.go ?_))
local macro_rules | `(tactic| walk_at "eval ListComp") => `(tactic| (k_here; refine Stop.go ?_))
local macro_rules | `(tactic| walk_at "subscriptTail") => `(tactic| (k_here; (with_reducible show wpAny _ _ (subscriptTail _ _ (Value.ref _) (Value.int _ _)) _ _ _); refine Stop.go ?_))
set_option maxRecDepth 100000 in
set_option maxHeartbeats 2000000 in
theorem seg15 {w : World} {p : Program} {loose : List PySem.Str} {mean : ExcName → Option Value} {mg mb : PySem.Str → Option Value}
   {dp un : Nat} {gd : Option (List Code)} {outer : List Env} {A₀ : Around} {base h₀ : Heap} {L : Addr} {m : PySem.Str → Option Value} {s : Shared} {Q : Flow → Shared → Prop} {E : Value → Shared → Prop}
   {news : List (Addr × Obj)} {oR : Obj} {b : Array UInt8} {tb : Tok} {r0 r1 r2 r3 : Int} {bt bg bb : Array UInt8} {tt tg tbb tw : Tok} {De Do : Addr} {oZ oO : Obj}
    (B : Below A₀ base outer h₀) (F : Fr h₀ L s.heap (fun y => if y = ("turned" : PySem.Str) then some (.bytes bt tt) else if y = ("odd" : PySem.Str) then some (.ref Do) else if y = ("even" : PySem.Str) then some (.ref De) else if y = ("groups" : PySem.Str) then some (.bytes bg tg) else if y = ("both" : PySem.Str) then some (.bytes bb tbb) else if y = ("whole" : PySem.Str) then some (.int (prod_val r0 r1 r2 r3) tw) else m y)) (X : (hd.heap_1 w.params).In h₀) (N : News h₀ L s.heap ((L + 2, oZ) :: (L + 3, oO) :: news)) (T : Top p loose mean mg mb h₀) (C1 : CodeHd base 34 30) (C2 : CodeHd base 41 37) (hdp : dp + 400 < recursionLimit) (hun : un + 2500 < cLine)
    (hRow : (L + 1, oR) ∈ news) (dR : oR.data = .cell (some (.bytes b tb))) (hb : KBw.bInts b = [r0, r1, r2, r3]) (g0 : 0 ≤ r0 ∧ r0 < 17) (g1 : 0 ≤ r1 ∧ r1 < 17) (g2 : 0 ≤ r2 ∧ r2 < 17) (g3 : 0 ≤ r3 ∧ r3 < 17) (hF : FullIn news) (hZ : oZ.data = .cell none) (hO : oO.data = .cell none) (off2 : ∀ q ∈ news, q.1 ≠ L + 2) (off3 : ∀ q ∈ news, q.1 ≠ L + 3)
    (next : ∀ m' h' tk', Fr h₀ L h' m' → News h₀ L h' news →
      wpP (model PySem.Challenge.rw_ic0006_01.row.prog w) (ktrTop dp un gd "law" lawCs L 107 (.ref 106) (lawCl L) outer) (execs (lawRest 16) (lawEnv L)) Q E { s with heap := h', toks := tk' }) :
    wpP (model PySem.Challenge.rw_ic0006_01.row.prog w) (ktrTop dp un gd "law" lawCs L 107 (.ref 106) (lawCl L) outer) (execs (lawRest 15) (lawEnv L)) Q E s := by
  w_top on
  show wpP _ (ktrTop _ _ _ _ { kind := _, names := _, isGenerator := _, isCoroutine := _, more := _ } _ _ _ _ _) (execs (_ :: _) (envX _ { kind := _, names := _, isGenerator := _, isCoroutine := _, more := _ } _ _ _ _)) _ _ _
  have hpb := prod_bound (r0 := r0) (r1 := r1) (r2 := r2) (r3 := r3)
  refine wpP_consAny ?_
  k_fold
  k_steps
  next =>
    rename_i hw lr h1 l1 h2 oZ2 F2 N2 dZ
    refine Stop.mk ?_
    refine listCompX (by k_asm) (by rfl) (by intro _; rfl) (by intro _; rfl) (by rfl) (by decide) (by rfl) ?_
    k_steps
    refine SrcOk.list (by rfl) (by k_asm) (by k_asm) (List.mem_cons_self ..) (Nat.le_of_ble_eq_true rfl) ⟨IInv (fun i => inv17 (atv r0 r1 r2 r3 (rootAt i))) _, IInv.start, IInv.len, ?turn, ?fin⟩
    case turn =>
      intro i ys nw v I oI C oC oX D h9 tk9 E9 hi hP hI hX F9 N9 off9 hlt9 hS
      refine roots_at hP (fun r t hv hr hb4 hq hri => ?_)
      have hX2 : oX.data = .cell (some (.int r t)) := hX.trans (congrArg (fun z => Data.cell (some z)) hv)
      have hsub := hI.1
      try simp only [List.cons_append, List.nil_append] at N9 hsub
      k_steps
      refine Stop.mk ?_
      refine listCompV (by k_asm) (by rfl) (by decide) (by rfl) (by decide) (by rfl) ?_
      k_steps
      refine SrcOk.range (by rfl) (by k_asm) (by k_asm) (by assumption) (by first | decide | rfl) (by first | rfl | decide) (by first | size_fits | exact Nat.le_of_ble_eq_true rfl) ⟨JInv (atv r0 r1 r2 r3 r) _, JInv.start, JInv.len, ?turn2, ?fin2⟩
      case turn2 =>
        intro j ys2 nw2 v2 I2 oI2 C2 oC2 D2 m2 h7 tk7 E7 hj hP2 hI2 hns hm2 F7 N7 off7 hne7 hS2 hIt2
        obtain ⟨t7, rfl⟩ := hP2
        have hsub2 := hI2.1
        try simp only [List.cons_append, List.nil_append] at N7 hsub2
        k_steps
        next =>
          (rename Int.fmod _ 17 = 1 => hc)
          exact TurnEnd.same (by k_asm) (by k_asm) (by walk_at "mysub2") off7 trivial (JInv.yes hI2 (Int.zero_add _) (cond_yes hc))
        next =>
          (rename Int.fmod _ 17 ≠ 1 => hc)
          exact TurnEnd.same (by k_asm) (by k_asm) (by walk_at "mysub2") off7 trivial (JInv.no hI2 (cond_no hc))
      case fin2 =>
        intro D3 ys3 nw3 h8 tk8 hI8 F8 N8 off8
        have hsub3 := hI8.1
        try simp only [List.cons_append, List.nil_append] at hsub3
        have hpos : 0 < atv r0 r1 r2 r3 r := rootAt_of hri ▸ atv_pos ‹prod_val r0 r1 r2 r3 ≠ 0› hi
        have hinv := inv_at hpos atv_bound.2
        k_steps
        refine Stop.mk ?_
        refine intItem (List.mem_cons_self ..) hI8.2 N8 (fun _ h => h) (by decide) (Int.ofNat_lt.mpr hinv.1) (by decide) ?_ (by with_unfolding_all rfl)
        intro t6
        k_steps
        exact TurnEnd.same (by k_asm) (by k_asm) (by walk_at "mysub2") off9 hS (IInv.step hI (fun _ h => h) (by show _ = inv17 (atv r0 r1 r2 r3 (rootAt i)); rw [rootAt_of hri]; rfl))
    case fin =>
      intro D ys nw h9 tk9 hI F9 N9 off9
      have hsub := hI.1
      k_steps
      refine' storeCellK (news := (D, LCg.lst ys) :: (lr, W.listOf #[Value.int 1 tk, Value.int 4 (tk + 1), Value.int 16 (tk + 1 + 1), Value.int 13 (tk + 1 + 1 + 1)] 0) :: (L + 2, oZ2) :: news) (c := L + 3) (o := oO) (by k_asm) ?jN ?jo ?jc hO ?_ ?jk ?jx
      case jN => exact cb_drop N9 (List.forall_mem_cons.mpr ⟨.tail _ (hsub _ (.tail _ (.tail _ (.head _)))), List.forall_mem_cons.mpr ⟨.head _, List.forall_mem_cons.mpr ⟨.tail _ (hsub _ (.head _)), List.forall_mem_cons.mpr ⟨.tail _ (hsub _ (.tail _ (.head _))), fun p hp => .tail _ (hsub p (.tail _ (.tail _ (.tail _ hp))))⟩⟩⟩⟩)
      case jo => exact List.forall_mem_cons.mpr ⟨Ne.symm (off9 _ (hsub _ (.tail _ (.tail _ (.head _))))), List.forall_mem_cons.mpr ⟨Ne.symm (Nat.ne_of_lt l1.2.1), List.forall_mem_cons.mpr ⟨Nat.ne_of_lt (Nat.lt_succ_self _), off3⟩⟩⟩
      case jc => rfl
      case jk => rfl
      case jx => rfl
      intro h8 oO2 F8 N8 dO
      have hi9 : IntsAre ys ((List.range 4).map fun i => inv17 (atv r0 r1 r2 r3 (rootAt i))) := hI.2
      have hir : IntsAre [Value.int 1 tk, Value.int 4 (tk + 1), Value.int 16 (tk + 1 + 1), Value.int 13 (tk + 1 + 1 + 1)] [1, 4, 16, 13] := .cons _ _ (.cons _ _ (.cons _ _ (.cons _ _ .nil)))
      k_steps
      refine Stop.mk ?_
      refine listCompX (by k_asm) (by rfl) (by intro _; rfl) (by intro _; rfl) (by rfl) (by decide) (by rfl) ?_
      k_steps
      refine SrcOk.range (by rfl) (by k_asm) (by k_asm) (by assumption) (by first | decide | rfl) (by first | rfl | decide) (by first | size_fits | exact Nat.le_of_ble_eq_true rfl) ⟨IInv (backv r0 r1 r2 r3) _, IInv.start, IInv.len, ?turn3, ?fin3⟩
      case turn3 =>
        intro k ys4 nw4 v4 I4 oI4 C4 oC4 oX4 D4 h6 tk6 E6 hk hP4 hI4 hX4 F6 N6 off6 hlt6 hS6
        obtain ⟨t4, rfl⟩ := hP4
        have hsub4 := hI4.1
        try simp only [List.cons_append, List.nil_append] at N6 hsub4
        k_steps
        refine Stop.mk ?_
        refine listCompV (by k_asm) (by rfl) (by decide) (by rfl) (by decide) (by rfl) ?_
        k_steps
        refine SrcOk.range (by rfl) (by k_asm) (by k_asm) (by assumption) (by first | decide | rfl) (by first | rfl | decide) (by first | size_fits | exact Nat.le_of_ble_eq_true rfl) ⟨IInv (fun j : Nat => inv17 (atv r0 r1 r2 r3 (rootAt j)) * rootAt j ^ (4 - k)) _, IInv.start, IInv.len, ?turn4, ?fin4⟩
        case turn4 =>
          intro j ys5 nw5 v5 I5 oI5 C5 oC5 D5 m5 h5 tk5 E5 hj hP5 hI5 hns5 hm5 F5 N5 off5 hne5 hS5 hIt5
          obtain ⟨t5, rfl⟩ := hP5
          have hsub5 := hI5.1
          try simp only [List.cons_append, List.nil_append] at N5 hsub5
          have hj4 : j < 4 := hj
          have hk4 : k < 4 := hk
          have hrb := getD_bound (l := [1, 4, 16, 13]) (by decide) (0 + (j : Int)).toNat
          k_steps
          refine Stop.mk ?_
          refine intItem (news := [(D, LCg.lst ys)]) (.head _) hi9 N5 (List.forall_mem_singleton.mpr (.tail _ (.tail _ (.tail _ (hsub5 _ (.tail _ (.tail _ (.tail _ (.tail _ (hsub4 _ (.tail _ (.head _)))))))))))) (by omega) (by rw [List.length_map, List.length_range]; omega) (by omega) ?_ (by with_unfolding_all rfl)
          intro t3
          k_steps
          refine Stop.mk ?_
          refine intItem (news := [(lr, W.listOf #[Value.int 1 tk, Value.int 4 (tk + 1), Value.int 16 (tk + 1 + 1), Value.int 13 (tk + 1 + 1 + 1)] 0)]) (.head _) (show IntsAre [Value.int 1 tk, Value.int 4 (tk + 1), Value.int 16 (tk + 1 + 1), Value.int 13 (tk + 1 + 1 + 1)] [1, 4, 16, 13] from .cons _ _ (.cons _ _ (.cons _ _ (.cons _ _ .nil)))) N5 (List.forall_mem_singleton.mpr (.tail _ (.tail _ (.tail _ (hsub5 _ (.tail _ (.tail _ (.tail _ (.tail _ (hsub4 _ (.tail _ (.tail _ (.head _))))))))))))) (by omega) (by show 0 + (j : Int) < 4; omega) (by omega) ?_ (by with_unfolding_all rfl)
          intro t2
          k_steps
          refine mul_int ?_ (ones_fit hw hj4)
          k_steps
          exact TurnEnd.same (by k_asm) (by k_asm) (by walk_at "mysub2") off5 trivial (IInv.step hI5 (fun _ h => h) (ones_eq hj4 hk4))
        case fin4 =>
          intro D6 ys6 nw6 h5 tk5 hI6 F5 N5 off5
          have hsub6 := hI6.1
          try simp only [List.cons_append, List.nil_append] at hsub6
          have hlD := N5.isList (.head _)
          k_steps
          refine' sumK (s := ⟨_, _, _, _, _⟩) ?jh ?jF ?jN ?jl ?ji ?_
          case jh => rfl
          case jF => exact F5
          case jN => exact N5
          case jl => exact hlD
          case ji => exact hI6.2
          intro h3 tk3 t3 F3 N3
          k_steps
          exact TurnEnd.same (by k_asm) (by k_asm) (by walk_at "mysub2") off6 trivial (IInv.step hI4 (fun _ h => h) (Int.fmod_eq_emod_of_nonneg _ (by decide)))
      case fin3 =>
        intro D6 ys6 nw6 h5 tk5 hI6 F5 N5 off5
        have hsub6 := hI6.1
        have hlD := N5.isList (.head _)
        have bd : ∀ k, 0 ≤ backv r0 r1 r2 r3 k ∧ backv r0 r1 r2 r3 k < 17 := fun k => backv_bound
        have hbk := KBa.ints_make (in4 (bd 0) (bd 1) (bd 2) (bd 3))
        have bd0 := bd 0
        have bd1 := bd 1
        have bd2 := bd 2
        have bd3 := bd 3
        k_steps
        refine KBa.make_K (ns := [backv r0 r1 r2 r3 0, backv r0 r1 r2 r3 1, backv r0 r1 r2 r3 2, backv r0 r1 r2 r3 3]) (by k_asm) (by k_asm) rfl hlD hI6.2 (in4 (bd 0) (bd 1) (bd 2) (bd 3)) (by show 4 ≤ 16777216; decide) ?_
        intro h3 t3 k3 F3 N3 _
        k_steps
        refine Stop.mk ?_
        (rename KBw.bInts _ = round_val r0 r1 r2 r3 (backv r0 r1 r2 r3 0) _ _ _ => hb9)
        refine ne_same (ns := [1, 0, 0, 0]) (hb9.trans (plain_back hw)) (show KBw.bInts (byteArr [1, 0, 0, 0]) = _ from KBa.ints_make (in4 (by decide) (by decide) (by decide) (by decide))) ?_
        k_steps
        exact next _ _ _ (by k_asm) (cb_drop (by k_asm) (by walk_at "mysub2"))
  exact next _ _ _ (by k_asm) (cb_drop (by k_asm) (by walk_at "mysub2"))

end
section
set_option maxRecDepth 100000 in
set_option maxHeartbeats 2000000 in
theorem seg16 {w : World} {p : Program} {loose : List PySem.Str} {mean : ExcName → Option Value} {mg mb : PySem.Str → Option Value}
   {dp un : Nat} {gd : Option (List Code)} {outer : List Env} {A₀ : Around} {base h₀ : Heap} {L : Addr} {m : PySem.Str → Option Value} {s : Shared} {Q : Flow → Shared → Prop} {E : Value → Shared → Prop}
   {news : List (Addr × Obj)}
    (B : Below A₀ base outer h₀) (F : Fr h₀ L s.heap (fun y => m y)) (X : (hd.heap_1 w.params).In h₀) (N : News h₀ L s.heap news) (T : Top p loose mean mg mb h₀) (C1 : CodeHd base 34 30) (C2 : CodeHd base 41 37) (hdp : dp + 400 < recursionLimit) (hun : un + 2500 < cLine)
    (done : ∀ h' tk', Fr h₀ L h' (fun y => m y) → News h₀ L h' news → Q (.ret (.bool true)) { s with heap := h', toks := tk' }) :
    wpP (model PySem.Challenge.rw_ic0006_01.row.prog w) (ktrTop dp un gd "law" lawCs L 107 (.ref 106) (lawCl L) outer) (execs (lawRest 16) (lawEnv L)) Q E s := by
  w_top off
  show wpP _ (ktrTop _ _ _ _ { kind := _, names := _, isGenerator := _, isCoroutine := _, more := _ } _ _ _ _ _) (execs (_ :: _) (envX _ { kind := _, names := _, isGenerator := _, isCoroutine := _, more := _ } _ _ _ _)) _ _ _
  refine wpP_consAny ?_
  k_fold
  k_steps
  exact done _ _ (by k_asm) (by k_asm)

end
theorem full_drop {h₀ h : Heap} {L : Addr} {nw : List (Addr × Obj)} {a2 a3 : Addr} {o2 o3 : Obj} {v2 v3 : Option Value} (N : News h₀ L h nw) (hF : FullIn nw) (h2 : (a2, o2) ∈ nw) (d2 : o2.data = .cell v2) (h3 : (a3, o3) ∈ nw) (d3 : o3.data = .cell v3) (n2 : 30 ≠ a2 ∧ 37 ≠ a2) (n3 : 30 ≠ a3 ∧ 37 ≠ a3) :
    FullIn (nw.filter fun p => decide (p.1 ≠ a2) && decide (p.1 ≠ a3)) := by
  obtain ⟨oA, oB, hA, hB, tA, tB⟩ := hF
  have keep : ∀ c oc vs, (c, oc) ∈ nw → oc.data = .fields vs → (decide (c ≠ a2) && decide (c ≠ a3)) = true := fun c oc vs hm hd => by
    have e2 : c ≠ a2 := tab_ne N hm h2 fun e => by rw [e, d2] at hd; cases hd
    have e3 : c ≠ a3 := tab_ne N hm h3 fun e => by rw [e, d3] at hd; cases hd
    simp only [Bool.and_eq_true, decide_eq_true_eq]
    exact ⟨e2, e3⟩
  refine ⟨oA, oB, List.mem_filter.mpr ⟨hA, ?_⟩, List.mem_filter.mpr ⟨hB, ?_⟩, tabF_filter N tA fun c oc vs t hm hd _ => keep c oc vs hm hd, tabF_filter N tB fun c oc vs t hm hd _ => keep c oc vs hm hd⟩
  · simp only [Bool.and_eq_true, decide_eq_true_eq]; exact ⟨n2.1, n3.1⟩
  · simp only [Bool.and_eq_true, decide_eq_true_eq]; exact ⟨n2.2, n3.2⟩
set_option maxRecDepth 100000 in
set_option maxHeartbeats 2000000 in
theorem lawAll {w : World} {p : Program} {loose : List PySem.Str} {mean : ExcName → Option Value} {mg mb : PySem.Str → Option Value}
   {dp un : Nat} {gd : Option (List Code)} {outer : List Env} {A₀ : Around} {base h₀ : Heap} {L : Addr} {m : PySem.Str → Option Value} {s : Shared} {Q : Flow → Shared → Prop} {E : Value → Shared → Prop}
   {l : Addr} {vs : List Value} {ns : List Int} {o1 o2 o3 : Obj}
    (B : Below A₀ base outer h₀) (F : Fr h₀ L s.heap fun y => if y = ("script" : PySem.Str) then some (.ref l) else m y) (X : (hd.heap_1 w.params).In h₀)
    (N : News h₀ L s.heap [(L + 3, o3), (L + 2, o2), (L + 1, o1), (37, tabObj #[]), (30, tabObj #[])]) (T : Top p loose mean mg mb h₀) (C1 : CodeHd base 34 30) (C2 : CodeHd base 41 37) (hdp : dp + 400 < recursionLimit) (hun : un + 2500 < cLine)
    (hl : h₀.IsList l vs.toArray) (hi : IntsAre vs ns) (hz : ns.length ≤ 63) (d1 : o1.data = .cell none) (d2 : o2.data = .cell none) (d3 : o3.data = .cell none) (hL : 37 < L)
    (done : ∀ news' h' tk' m', Fr h₀ L h' m' → News h₀ L h' news' → FullIn news' → Q (.ret (.bool true)) { s with heap := h', toks := tk' }) :
    wpP (model PySem.Challenge.rw_ic0006_01.row.prog w) (ktrTop dp un gd "law" lawCs L 107 (.ref 106) (lawCl L) outer) (execs (lawRest 0) (lawEnv L)) Q E s := by
  have hL' : @LT.lt Nat _ 37 L := hL
  refine seg0 B F X N T hl hi hz (fun D ws e h1 tk1 F1 N1 hi1 => ?_)
  obtain ⟨n0, n1, n2, n3, n4, n5, n6, n7, e8⟩ := eight ns
  rw [e8] at hi1
  have nD : ∀ x ∈ [(L + 3, o3), (L + 2, o2), (L + 1, o1), (37, tabObj #[]), (30, tabObj #[])], (x : Addr × Obj) ∈ (D, W.listOf ws.toArray e) :: [(L + 3, o3), (L + 2, o2), (L + 1, o1), (37, tabObj #[]), (30, tabObj #[])] := fun x hx => .tail _ hx
  have hD1 : D ≠ L + 1 := tab_ne N1 (.head _) (.tail _ (.tail _ (.tail _ (.head _)))) fun e => by
    have := congrArg Obj.data e
    rw [d1] at this; cases this
  refine seg1 (news := [(D, W.listOf ws.toArray e), (L + 3, o3), (L + 2, o2), (37, tabObj #[]), (30, tabObj #[])]) B F1 X (cb_drop N1 (by simp)) T ?_ d1 (.head _) hi1 (fun b bo t u oR h2 tk2 F2 N2 dR hb hbo => ?_)
  · intro q hq
    simp only [List.mem_cons, List.not_mem_nil, or_false] at hq
    rcases hq with rfl | rfl | rfl | rfl | rfl
    · exact hD1
    · exact Nat.ne_of_gt (Nat.add_lt_add_left (by decide : 1 < 3) L)
    · exact Nat.ne_of_gt (Nat.add_lt_add_left (by decide : 1 < 2) L)
    · exact Nat.ne_of_lt (Nat.lt_of_lt_of_le hL (Nat.le_add_right L 1))
    · exact Nat.ne_of_lt (Nat.lt_of_lt_of_le (Nat.lt_trans (by decide : 30 < 37) hL) (Nat.le_add_right L 1))
  have gm : ∀ n : Int, 0 ≤ n % 17 ∧ n % 17 < 17 := fun n => by omega
  have g0 := gm n0
  have g1 := gm n1
  have g2 := gm n2
  have g3 := gm n3
  have i0 := gm n4
  have i1 := gm n5
  have i2 := gm n6
  have i3 := gm n7
  generalize n0 % 17 = r0 at *
  generalize n1 % 17 = r1 at *
  generalize n2 % 17 = r2 at *
  generalize n3 % 17 = r3 at *
  generalize n4 % 17 = o0' at *
  generalize n5 % 17 = o1' at *
  generalize n6 % 17 = o2' at *
  generalize n7 % 17 = o3' at *
  refine seg2 (news := [(L + 1, oR), (L + 2, o2), (L + 3, o3)]) B F2 X (cb_drop N2 (by simp)) T C1 C2 hdp hun ?_ ?_ (fun nw3 h3 tk3 F3 N3 sub3 full3 => ?_)
  · intro q hq
    simp only [List.mem_cons, List.not_mem_nil, or_false] at hq
    rcases hq with rfl | rfl | rfl
    · exact Nat.ne_of_gt (Nat.lt_of_lt_of_le (Nat.lt_trans (by decide : 30 < 37) hL) (Nat.le_add_right L 1))
    · exact Nat.ne_of_gt (Nat.lt_of_lt_of_le (Nat.lt_trans (by decide : 30 < 37) hL) (Nat.le_add_right L 2))
    · exact Nat.ne_of_gt (Nat.lt_of_lt_of_le (Nat.lt_trans (by decide : 30 < 37) hL) (Nat.le_add_right L 3))
  · intro q hq
    simp only [List.mem_cons, List.not_mem_nil, or_false] at hq
    rcases hq with rfl | rfl | rfl
    · exact Nat.ne_of_gt (Nat.lt_of_lt_of_le hL (Nat.le_add_right L 1))
    · exact Nat.ne_of_gt (Nat.lt_of_lt_of_le hL (Nat.le_add_right L 2))
    · exact Nat.ne_of_gt (Nat.lt_of_lt_of_le hL (Nat.le_add_right L 3))
  have R3 : (L + 1, oR) ∈ nw3 := sub3 _ (.head _)
  have Z3 : (L + 2, o2) ∈ nw3 := sub3 _ (.tail _ (.head _))
  have O3 : (L + 3, o3) ∈ nw3 := sub3 _ (.tail _ (.tail _ (.head _)))
  refine seg3 B F3 X N3 T C1 C2 hdp hun R3 dR hb g0 g1 g2 g3 full3 (fun tw h4 tk4 F4 N4 => ?_)
  refine seg4 B F4 X N4 T C1 C2 hdp hun R3 dR hb g0 g1 g2 g3 full3 (fun nw5 h5 tk5 F5 N5 sub5 => ?_)
  have full5 := full3.mono sub5
  refine seg5 B F5 X N5 T C1 C2 hdp hun (sub5 _ R3) dR hb g0 g1 g2 g3 full5 hbo i0 i1 i2 i3 (fun bb tbb h6 tk6 F6 N6 hbb => ?_)
  have jm : ∀ v ∈ round_val r0 r1 r2 r3 o0' o1' o2' o3', 0 ≤ v ∧ v < 17 := round_in
  obtain ⟨v0, v1, v2, v3, hv⟩ : ∃ v0 v1 v2 v3, round_val r0 r1 r2 r3 o0' o1' o2' o3' = [v0, v1, v2, v3] := ⟨_, _, _, _, rfl⟩
  rw [hv] at jm
  have j0 := jm v0 (.head _)
  have j1 := jm v1 (.tail _ (.head _))
  have j2 := jm v2 (.tail _ (.tail _ (.head _)))
  have j3 := jm v3 (.tail _ (.tail _ (.tail _ (.head _))))
  have hbb' := hbb.trans hv
  refine seg6 B F6 X N6 T C1 C2 hdp hun (sub5 _ R3) dR hb g0 g1 g2 g3 full5 hbo i0 i1 i2 i3 hbb' hv j0 j1 j2 j3 (fun nw7 h7 tk7 F7 N7 sub7 => ?_)
  have full7 := full5.mono sub7
  have R7 := sub7 _ (sub5 _ R3)
  have Z7 := sub7 _ (sub5 _ Z3)
  have O7 := sub7 _ (sub5 _ O3)
  refine seg7 B F7 X N7 T C1 C2 hdp hun R7 dR hb g0 g1 g2 g3 full7 hbo i0 i1 i2 i3 hbb' hv j0 j1 j2 j3 (fun h8 tk8 F8 N8 => ?_)
  refine seg8 B F8 X N8 T C1 C2 hdp hun R7 dR hb g0 g1 g2 g3 full7 (fun bg tg h9 tk9 F9 N9 hbg => ?_)
  refine seg9 B F9 X N9 T C1 C2 hdp hun R7 dR hb g0 g1 g2 g3 full7 hbg (fun h10 tk10 F10 N10 => ?_)
  refine seg10 B F10 X N10 T C1 C2 hdp hun R7 dR hb g0 g1 g2 g3 full7 hbg (fun De te tf h11 tk11 F11 N11 => ?_)
  refine seg11 B F11 X N11 T C1 C2 hdp hun (.tail _ R7) dR hb g0 g1 g2 g3 (full7.mono fun _ h => .tail _ h) hbg (fun Do tg2 th h12 tk12 F12 N12 => ?_)
  refine seg12 B F12 X N12 T C1 C2 hdp hun R7 dR hb g0 g1 g2 g3 full7 hbg (fun h13 tk13 F13 N13 => ?_)
  have N13' : News h₀ L h13 nw7 := cb_drop N13 fun _ h => .tail _ (.tail _ h)
  refine seg13 B F13 X N13' T C1 C2 hdp hun R7 dR hb g0 g1 g2 g3 full7 (fun bt tt h14 tk14 F14 N14 hbt => ?_)
  refine seg14 B F14 X N14 T C1 C2 hdp hun R7 dR hb g0 g1 g2 g3 full7 hbt (fun h15 tk15 F15 N15 => ?_)
  have ne2 : (30 : Nat) ≠ L + 2 ∧ (37 : Nat) ≠ L + 2 := ⟨Nat.ne_of_lt (Nat.lt_of_lt_of_le (Nat.lt_trans (by decide : 30 < 37) hL) (Nat.le_add_right L 2)), Nat.ne_of_lt (Nat.lt_of_lt_of_le hL (Nat.le_add_right L 2))⟩
  have ne3 : (30 : Nat) ≠ L + 3 ∧ (37 : Nat) ≠ L + 3 := ⟨Nat.ne_of_lt (Nat.lt_of_lt_of_le (Nat.lt_trans (by decide : 30 < 37) hL) (Nat.le_add_right L 3)), Nat.ne_of_lt (Nat.lt_of_lt_of_le hL (Nat.le_add_right L 3))⟩
  have fullF := full_drop N15 full7 Z7 d2 O7 d3 ne2 ne3
  have offF : ∀ q ∈ nw7.filter fun p => decide (p.1 ≠ L + 2) && decide (p.1 ≠ L + 3), q.1 ≠ L + 2 ∧ q.1 ≠ L + 3 := fun q hq => by
    have := (List.mem_filter.mp hq).2
    simp only [Bool.and_eq_true, decide_eq_true_eq] at this
    exact this
  have RF : (L + 1, oR) ∈ nw7.filter fun p => decide (p.1 ≠ L + 2) && decide (p.1 ≠ L + 3) := List.mem_filter.mpr ⟨R7, by
    simp only [Bool.and_eq_true, decide_eq_true_eq]
    exact ⟨Nat.ne_of_lt (Nat.add_lt_add_left (by decide : 1 < 2) L), Nat.ne_of_lt (Nat.add_lt_add_left (by decide : 1 < 3) L)⟩⟩
  refine seg15 (news := nw7.filter fun p => decide (p.1 ≠ L + 2) && decide (p.1 ≠ L + 3)) B F15 X (fun q hq => ?_) T C1 C2 hdp hun RF dR hb g0 g1 g2 g3 fullF d2 d3 (fun q hq => (offF q hq).1) (fun q hq => (offF q hq).2) (fun m' h16 tk16 F16 N16 => ?_)
  · rcases List.mem_cons.mp hq with rfl | hq
    · exact N15 _ Z7
    · rcases List.mem_cons.mp hq with rfl | hq
      · exact N15 _ O7
      · exact N15 _ (List.mem_filter.mp hq).1
  exact seg16 B F16 X N16 T C1 C2 hdp hun (fun h17 tk17 F17 N17 => done _ _ _ _ F17 N17 fullF)

/-- into the law's def with cells, the stack clean -/
theorem codeP_top {prog : Program} {w : World} {A : Around} {R : Result → Shared → Prop} {s : Shared} {name : PySem.Str} {params : Arguments} {body : List Stmt} {scope : Scope}
    {pm cd doc : Value} {a : Addr} {o : Obj} {args : List Value} {binds : List (PySem.Str × Value)}
    (hroom : A.depth < recursionLimit) (ho : s.heap.get? a = some o) (hdata : o.data = .func (Calls.docDef name params body scope pm cd doc)) (hlim : s.heap.NoLimit) (hcd : s.heap.CodeRec cd name)
    (hbind : bindArgs (Calls.docDef name params body scope pm cd doc) ⟨args, []⟩ = pure binds)
    (hkind : ∀ x ∈ binds, scope.names.lookup x.1 = some .local ∨ (scope.names.lookup x.1 = some .cell ∧ ((cellsFrom (s.heap.objs.size + 1) scope.names []).lookup x.1).isSome = true))
    (hnd : ((cellsFrom 0 scope.names []).map (·.1)).Nodup)
    (h : ∀ h₁ tk cells, Fr s.heap s.heap.objs.size h₁ (bindL (envOfC name scope s.heap.objs.size a cd).kindOf binds fun _ => none) → News s.heap s.heap.objs.size h₁ cells →
      CellsAre (bindC (envOfC name scope s.heap.objs.size a cd).kindOf binds fun _ => none) (cellsFrom (s.heap.objs.size + 1) scope.names []) cells →
      wpP (model prog w) (A.deeper (envOfC name scope s.heap.objs.size a cd)) (execs body (envOfC name scope s.heap.objs.size a cd))
        (fun f s' => R (.ok (.ret (match f with | .ret v => v | _ => .none))) s')
        (fun e s' => wpAny (model prog w) (A.deeper (envOfC name scope s.heap.objs.size a cd)) (leaving (envOfC name scope s.heap.objs.size a cd) e)
          (fun _ s'' => R (.error e) s'') (fun e' s'' => R (.error e') s'') s')
        { s with heap := h₁, toks := tk })
    (hco : scope.isCoroutine = false) (hgen : scope.isGenerator = false) (hk : scope.kind = .function) :
    codeP (model prog w) A (.call (.ref a) ⟨args, []⟩) R s := by
  refine codeP_function (fd := Calls.docDef name params body scope pm cd doc) (body := body) hroom ho hdata hco hgen rfl hcd ?_
  rw [hbind]
  refine wpAny_pure (wpAny_newFunctionEnv_cells hk hkind fun env he s' x => ?_)
  subst he
  refine ⟨hlim.keeps x.toInCall.keep, codeP_func ?_⟩
  have x' : InCallC s (envOfC name scope s.heap.objs.size a cd).locals (bindL (envOfC name scope s.heap.objs.size a cd).kindOf binds fun _ => none) (envOfC name scope s.heap.objs.size a cd).cells (bindC (envOfC name scope s.heap.objs.size a cd).kindOf binds fun _ => none) s' := x
  obtain ⟨h₁, tk, rfl, _⟩ := x'.done
  obtain ⟨cells, N, Y⟩ := Cl.news (h₀ := s.heap) (Nat.le_refl _) (cm := bindC (envOfC name scope s.heap.objs.size a cd).kindOf binds fun _ => none) (cs := cellsFrom (s.heap.objs.size + 1) scope.names []) (h := h₁)
    fun n c hm => ⟨x'.cell n c (lookup_of_mem_nodup (cellsFrom_names scope.names 0 (s.heap.objs.size + 1) [] [] rfl ▸ hnd) hm), x'.above n c hm⟩
  exact h h₁ tk cells ⟨x'.toInCall.ns, x'.toInCall.keep, x'.toInCall.fresh⟩ N Y
/-- the law's answer True is a good end -/
theorem good_true {c : ClaimW} {cl : PySem.Str → Option Addr} {mean : ExcName → Option Value} {args : List WData} {s₁ : Shared} {L : Addr} {m' : PySem.Str → Option Value} {h' : Heap} {tk' : Tok} {news' : List (Addr × Obj)}
    (hT : TabsAt [(41, 37), (34, 30)] s₁.heap) (F : Fr (ghostOf s₁.heap [(41, 37), (34, 30)]) L h' m') (N : News (ghostOf s₁.heap [(41, 37), (34, 30)]) L h' news') (full : FullIn news') (hg : s₁.gens = #[])
    (hr : ∀ cls, c.raises args cls = false) (hp : c.post args (.bool true) args = true) : GoodWG c cl mean args s₁ (.ok (.ret (.bool true))) { s₁ with heap := h', toks := tk' } := by
  obtain ⟨oA, oB, mA, mB, ⟨cA, _, _, _, eA, _⟩, ⟨cB, _, _, _, eB, _⟩⟩ := full
  subst eA
  subst eB
  have keep : ∀ b o, b ∉ ([(41, 37), (34, 30)] : List (Addr × Addr)).map (·.2) → s₁.heap.get? b = some o → h'.get? b = some o := fun b o hb e => F.keep b o (ghost_ne e hb)
  have grown : ∀ b o, b ∈ ([(41, 37), (34, 30)] : List (Addr × Addr)).map (·.2) → s₁.heap.get? b = some o → isCodeTable s₁.heap b ∧ o = tabObj #[] ∧ ∃ ps, h'.get? b = some (tabObj ps) := fun b o hb e => by
    obtain ⟨q, hq, rfl⟩ := List.mem_map.mp hb
    have e2 := (hT q hq).2
    rw [e] at e2
    refine ⟨((hT q hq).1.tab (hT q hq).2).isCodeTable, Option.some.inj e2, ?_⟩
    simp only [List.mem_cons, List.not_mem_nil, or_false] at hq
    rcases hq with rfl | rfl
    · exact ⟨_, (N _ mB).1⟩
    · exact ⟨_, (N _ mA).1⟩
  refine ⟨.inl ⟨_, _, [], rfl, hr, .bool true, hp, fun _ => ⟨List.nodup_nil, fun a ha => by cases ha⟩⟩, ⟨fun b o e => ?_, fun b o e => ?_⟩, rfl, .of_eq hg⟩
  · by_cases hb : b ∈ ([(41, 37), (34, 30)] : List (Addr × Addr)).map (·.2)
    · obtain ⟨ht, rfl, ps, hP⟩ := grown b o hb e
      exact .inr (.inl ⟨ht, rfl, #[], ps, rfl, by rw [Array.empty_append]; exact hP⟩)
    · exact .inl (keep b o hb e)
  · by_cases hb : b ∈ ([(41, 37), (34, 30)] : List (Addr × Addr)).map (·.2)
    · obtain ⟨_, _, ps, hP⟩ := grown b o hb e
      exact ⟨_, hP⟩
    · exact ⟨o, keep b o hb e⟩
def lawPar : Arguments := match PySem.Challenge.pw_ic0006_01.main.body.getLast? with
  | some (.FunctionDef _ params _ _ _ _ _ _ _ _) => params
  | _ => default
def fnFacts : Obj → Option (Value × Value × Value)
  | ⟨_, _, .func fd, _⟩ => some (fd.code, fd.defaults, fd.kwdefaults)
  | _ => none
theorem fn_at {K : Frag} {h : Heap} {a : Addr} {o : Obj} {fd : FuncData} {c d k : Value} (X : K.In h) (ho : h.get? a = some o) (hd : o.data = .func fd) (e : (K.lookup a).bind fnFacts = some (c, d, k)) :
    fd.code = c ∧ fd.defaults = d ∧ fd.kwdefaults = k := by
  cases q : K.lookup a with
  | none => rw [q] at e; cases e
  | some ob =>
    rw [q] at e
    have e2 := X a ob q
    rw [ho] at e2
    cases e2
    obtain ⟨c', a', d', sl⟩ := o
    dsimp only at hd
    subst hd
    have e3 : some (fd.code, fd.defaults, fd.kwdefaults) = some (c, d, k) := e
    have e4 := Option.some.inj e3
    exact ⟨congrArg (·.1) e4, congrArg (·.2.1) e4, congrArg (·.2.2) e4⟩
theorem law_cells (L : Addr) : cellsFrom (L + 1) lawCs.names [] = lawCl L := by rfl
theorem law_env (L : Addr) : envOfC "law" lawCs L 107 (.ref 106) = lawEnv L := by
  show Env.mk .. = Env.mk ..
  rw [law_cells]
theorem law_map (v : Value) : bindL (fun n => lawCs.names.lookup n) [("script", v)] (fun _ => none) = fun y => if y = ("script" : PySem.Str) then some v else (fun _ => none : PySem.Str → Option Value) y := by rfl
theorem law_cmap (v : Value) : bindC (fun n => lawCs.names.lookup n) [("script", v)] (fun _ => none) = fun _ => none := by rfl
theorem three_cells {L : Addr} {cells : List (Addr × Obj)} (C : CellsAre (fun _ => none) (lawCl L) cells) : ∃ o1 o2 o3, cells = [(L + 3, o3), (L + 2, o2), (L + 1, o1)] ∧ o1.data = .cell none ∧ o2.data = .cell none ∧ o3.data = .cell none := by
  cases C with | cons h3 C =>
  cases C with | cons h2 C =>
  cases C with | cons h1 C =>
  cases C
  exact ⟨_, _, _, rfl, h1, h2, h3⟩
set_option maxRecDepth 100000 in
set_option maxHeartbeats 8000000 in
theorem law_go {w : World} {p : Program} {loose : List PySem.Str} {mean : ExcName → Option Value} {mg mb : PySem.Str → Option Value} {s₁ : Shared} {o : Obj} {pm doc : Value} {l : Addr} {vs : List Value} {ns : List Int} {c : ClaimW} {cl : PySem.Str → Option Addr} {mean' : ExcName → Option Value} {args : List WData}
    (KX : (hd.heap_1 w.params).In s₁.heap) (T : Top p loose mean mg mb s₁.heap) (hT : TabsAt [(41, 37), (34, 30)] s₁.heap) (ho : s₁.heap.get? 107 = some o) (hdata : o.data = .func (Calls.docDef "law" lawPar (lawRest 0) lawCs pm (.ref 106) doc)) (hcd : s₁.heap.CodeRec (.ref 106) "law")
    (hl : s₁.heap.IsList l vs.toArray) (hi : IntsAre vs ns) (hz : ns.length ≤ 63) (hg : s₁.gens = #[]) (hr : ∀ cls, c.raises args cls = false) (hp : c.post args (.bool true) args = true) :
    wpP (model PySem.Challenge.rw_ic0006_01.row.prog w) callerA (call (.ref 107) [.ref l]) (fun v s' => GoodWG c cl mean' args s₁ (.ok (.ret v)) s') (fun e s' => GoodWG c cl mean' args s₁ (.error e) s') s₁ := by
  refine wpP_call (codeP_top (name := "law") (params := lawPar) (body := lawRest 0) (scope := lawCs) (binds := [("script", .ref l)]) (by decide +kernel) ho hdata T.nolimit hcd (by rfl) (fun x hx => ?_) (by decide +kernel) (fun h₁ tk cells F N C => ?_) (by rfl) (by rfl) (by rfl))
  · simp only [List.mem_singleton] at hx
    subst hx
    exact .inl (by rfl)
  · have hL : 37 < s₁.heap.objs.size := Heap.lt_size (hT (41, 37) (.head _)).2
    generalize hLe : s₁.heap.objs.size = L at *
    rw [law_cells] at C
    rw [law_env]
    have C' : CellsAre (fun _ => none) (lawCl L) cells := C
    obtain ⟨o1, o2, o3, rfl, d1, d2, d3⟩ := three_cells C'
    have F' : Fr (ghostOf s₁.heap [(41, 37), (34, 30)]) L h₁ fun y => if y = ("script" : PySem.Str) then some (.ref l) else (fun _ => none : PySem.Str → Option Value) y := ghost_fr hT F
    have N' : News (ghostOf s₁.heap [(41, 37), (34, 30)]) L h₁ [(L + 3, o3), (L + 2, o2), (L + 1, o1), (37, tabObj #[]), (30, tabObj #[])] := ghost_news hT F N
    obtain ⟨C2, C1, _⟩ := ghost_code hT
    have hA : callerA.deeper (lawEnv L) = ktrTop (callerA.depth + 1) (callerA.units + 3) callerA.guards "law" lawCs L 107 (.ref 106) (lawCl L) [] := rfl
    rw [hA]
    refine lawAll (ghost_below hT) F' (ghost_K hT KX (by kernel_rfl)) N' (ghost_top hT T) C1 C2 (by decide +kernel) (by decide +kernel) (ghost_list hT hl) hi hz d1 d2 d3 hL (fun news' h' tk' m' F2 N2 full => ?_)
    exact good_true hT F2 N2 full hg hr hp
def isDef : Stmt → Bool
  | .FunctionDef .. => true
  | _ => false
/-- the program's top without what no call reads -/
noncomputable def view : Program :=
  let p := PySem.Challenge.rw_ic0006_01.row.toRowW.1
  { p with main := { p.main with body := (p.main.body.drop 1).take 1 ++ p.main.body.filter isDef } }
noncomputable abbrev hook : Hook := kmHook hd.heap_1 [2, 3, 6, 15, 17, 18, 20, 21, 22, 24, 25, 27, 28, 29, 31, 32, 34, 35, 36, 38, 39, 41, 42, 43, 45, 46, 48, 49, 50, 52,
  53, 55, 56, 57, 59, 60, 62, 63, 64, 66, 67, 69, 70, 71, 74, 75, 76, 79, 80, 81, 84, 85, 86, 89, 90, 91, 93, 94, 96,
  97, 98, 101, 102, 103, 106, 107] (fun _ => by kernel_rfl) [37, 30]
set_option maxRecDepth 100000 in
set_option maxHeartbeats 8000000 in
theorem left : LeftO PySem.Challenge.rw_ic0006_01.row.prog view [] (fun s => xlAt view [] s) hook.obs hook.val (2 * 508 + 100) := by
  intro w
  kernel_rfl
end Mine
set_option maxRecDepth 100000 in
set_option maxHeartbeats 8000000 in
theorem PySem.Challenge.cw_ic0006_01_holds : PySem.Challenge.rw_ic0006_01.Holds := by
  w_on
  o_law
  refine Mine.ownHead (q := Mine.view) (loose := []) (Xt := fun s => xlAt Mine.view [] s) (XP := XL Mine.view []) (Yf := Mine.hook.obs) (Ya := Mine.hook.val) (YP := Mine.hook.says) (N := 2 * 508 + 100) Mine.left Mine.hook.of Mine.hook.keeps (fun s e => xl_of s e) XL.keeps (by rfl) (by rfl) (by rfl) (by rfl) (by rfl) (by rfl) (by rfl)
    (by first | assumption | decide +kernel) (by decide +kernel) (by decide +kernel) ⟨rfl, rfl, rfl, rfl, rfl, by decide +kernel⟩ ?hw ?hc
  case hw => w_witness2
  case hc =>
    intro w s₀ s₁ mg mb G Y fa o pm cd doc dV kV ho hd' hcd hD hmg hg args vals as hpre hlay hrd hwl hlo
    have KX := km_in_of Y
    km_tabs Y
    refine Ground.open G ?_
    intro T B D TE TW
    have hfa : fa = 107 := by
      have e1 : mg "law" = some (.ref fa) := hmg
      have e2 := mg_of KX T.g (n := "law") (v := .ref 107) (by kernel_rfl)
      rw [e1] at e2
      cases e2
      rfl
    subst hfa
    km_lay T hmg ho hd' cd
    clear hmg
    wrow_args hpre hlay hrd hwl hlo
    rename IntsAre _ _ => hi9
    rename Heap.IsList _ _ _ => hl9
    have f9 := Mine.fn_at KX ho hd' (c := .ref 106) (d := .none) (k := .none) (by kernel_rfl)
    have f91 : cd = .ref 106 := f9.1
    have f92 : dV = .none := f9.2.1
    have f93 : kV = .none := f9.2.2
    subst f91
    subst f92
    subst f93
    refine Mine.law_go (pm := pm) (doc := doc) KX T hT9 ho (hd'.trans (by kernel_rfl)) hcd hl9 hi9 (by omega) hg ?_ ?_
    · intro cls
      rfl
    · exact postW_of (by wrow_shape) (by wtm_val) (by str_meet; first | done | w_fin)
