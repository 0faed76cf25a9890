import PyProof.Rows.All
import Wide.All
import OpenK.AllK
import Wide.FinOn
import PySem.Challenge.RW_nb0143_01
open PySem PySem.W PyProof.Rows
set_option Elab.async false
set_option linter.all false
section
namespace Mine
abbrev Led := List (Addr × Obj)
def CallOk (prog : Program) (w : World) (K : Frag) (f : Addr) (vs : List Value) (dep uni : Nat) (news : Led) (Post : Value → Led → Prop) : Prop :=
  ∀ (p : Program) (loose : List Str) (mean : ExcName → Option Value) (mg mb : Str → Option Value) (dp un : Nat) (gd : Option (List Code)) (cn : Str) (cs : Scope) (a : Addr) (ccd : Value) (cl : List (Str × Addr)) (outer : List Env) (A₀ : Around) (base h₀ : Heap) (L : Addr) (m : Str → Option Value) (s : Shared) (Q E : Value → Shared → Prop),
    Below A₀ base outer h₀ → Fr h₀ L s.heap m → K.In h₀ → News h₀ L s.heap news → Top p loose mean mg mb h₀ → cs.kind = .function → dp + dep < recursionLimit → un + uni < cLine →
    (∀ r news' h' tk', Fr h₀ L h' m → News h₀ L h' news' → Post r news' → Q r { s with heap := h', toks := tk' }) →
    wpAny (model prog w) (ktrTop dp un gd cn cs L a ccd cl outer) (call (.ref f) vs) Q E s

/-- a text of these code points -/
def S (l : List Nat) : Str := ⟨l.toArray⟩
theorem S_toList (x : Str) : x = S x.cps.toList := by cases x; simp [S]
theorem S_len (l : List Nat) : (S l).length = l.length := by simp [S, Str.length]
theorem S_app (l k : List Nat) : S l ++ S k = S (l ++ k) := by
  show Str.append _ _ = _
  simp [S, Str.append]
theorem S_inj {l k : List Nat} : S l = S k ↔ l = k := by
  constructor
  · intro h
    have := congrArg (fun x : Str => x.cps.toList) h
    simpa [S] using this
  · intro h; rw [h]
theorem S_lit {s : String} {l : List Nat} (h : s.toList.map Char.toNat = l) : Str.ofString s = S l := by
  rw [Str.ofString_eq_toList, h]; rfl
theorem slice_to {l : List Nat} {j : Int} (h0 : 0 ≤ j) (h2 : j ≤ l.length) : Txt.slice (S l) none (some j) = S (l.take j.toNat) := by
  have := eq_of_beq (slice_closes_toL (x := S l) h0 (by rw [S_len]; exact h2))
  rw [this]; simp [S]
theorem slice_mid {l : List Nat} {i j : Int} (h0 : 0 ≤ i) (h1 : i ≤ j) (h2 : j ≤ l.length) : Txt.slice (S l) (some i) (some j) = S ((l.drop i.toNat).take (j - i).toNat) := by
  have := eq_of_beq (slice_closesL (x := S l) h0 h1 (by rw [S_len]; exact h2))
  rw [this]; simp [S]
theorem slice_from {l : List Nat} {i : Int} (h0 : 0 ≤ i) (h2 : i ≤ l.length) : Txt.slice (S l) (some i) none = S (l.drop i.toNat) := by
  have := eq_of_beq (slice_closes_fromL (x := S l) (b := l.length) h0 (by rw [S_len]; exact h2) (by rw [S_len]))
  rw [this]; simp [S]
  have : (l.drop i.toNat).length = l.length - i.toNat := by simp
  rw [List.take_of_length_le]
  omega
theorem item_S {l : List Nat} {i : Int} (h0 : 0 ≤ i) (h2 : i < l.length) : Txt.item (S l) i = S [l.getD i.toNat 0] := by
  unfold Txt.item Txt.charAt seqIndex?
  have e : (S l).cps = l.toArray := rfl
  have hl : (S l).length = l.length := S_len l
  simp only [hl, e]
  have h3 : ¬ i < 0 := by omega
  simp [h3, h0, h2, S, List.getD]

/-- what parse257 reads behind the opening quote -/
def rd : List Nat → List Nat
  | [] => []
  | c :: r => if c = 34 then (match r with | [] => [] | d :: r' => if d = 34 then 34 :: rd r' else []) else c :: rd r
theorem rd_nil : rd [] = [] := by rw [rd]
theorem rd_q1 : rd [34] = [] := by rw [rd]; simp
theorem rd_qq (r : List Nat) : rd (34 :: 34 :: r) = 34 :: rd r := by rw [rd]; simp
theorem rd_qc {c : Nat} (r : List Nat) (h : c ≠ 34) : rd (34 :: c :: r) = [] := by rw [rd.eq_def]; simp [h]
theorem rd_c {c : Nat} (r : List Nat) (h : c ≠ 34) : rd (c :: r) = c :: rd r := by rw [rd.eq_def]; simp [h]
def Ends (g : Heap) (L : Addr) (s : Shared) (Post : Value → Led → Prop) (fl : Flow) (s' : Shared) : Prop :=
  ∃ m' news' h' tk', s' = { s with heap := h', toks := tk' } ∧ Fr g L h' m' ∧ News g L h' news' ∧ Post (match fl with | .ret v => v | _ => .none) news'
theorem Ends.intro {g : Heap} {L : Addr} {s : Shared} {Post : Value → Led → Prop} {fl : Flow} {m' : Str → Option Value} {news' : Led} {h' : Heap} {tk' : Nat}
    (F : Fr g L h' m') (N : News g L h' news') (hp : Post (match fl with | .ret v => v | _ => .none) news') : Ends g L s Post fl { s with heap := h', toks := tk' } :=
  ⟨m', news', h', tk', rfl, F, N, hp⟩

/-- the body of a def, in a frame of its own -/
def BodyOk (prog : Program) (w : World) (K : Frag) (qual : Str) (scope : Scope) (f : Addr) (cdv : Value) (cl : List (Str × Addr)) (body : List Stmt) (binds : List (Str × Value)) (dep uni : Nat) (news : Led) (Post : Value → Led → Prop) : Prop :=
  ∀ (p : Program) (loose : List Str) (mean : ExcName → Option Value) (mg mb : Str → Option Value) (dp un : Nat) (gd : Option (List Code)) (outer : List Env) (A₀ : Around) (base g : Heap) (L : Addr) (s : Shared),
    Below A₀ base outer g → Fr g L s.heap (fun y => binds.reverse.lookup y) → K.In g → News g L s.heap news → (∀ p ∈ news, p.1 < L) → Top p loose mean mg mb g → dp + dep < recursionLimit → un + uni < cLine →
    wpAny (model prog w) (ktrTop dp un gd qual scope L f cdv cl outer) (execs body (envX qual scope L f cdv cl)) (Ends g L s Post) (fun _ _ => False) s

theorem callOk_of_body {prog : Program} {w : World} {K : Frag} {f : Addr} {vs : List Value} {dep uni : Nat} {news : Led} {Post : Value → Led → Prop}
    {name qual : Str} {params : Arguments} {body : List Stmt} {scope : Scope} {dV kV doc pm cdv ct oc : Value} {an od : Option Addr} {osl : Array (Option Value)} (binds : List (Str × Value))
    (ho : K.lookup f = some ⟨oc, od, .func (fnOf name qual params body scope dV kV doc pm an cdv ct), osl⟩) (hcd : codeIn K cdv qual = true)
    (hbind : ∀ s, BindsTo s (fnOf name qual params body scope dV kV doc pm an cdv ct) ⟨vs, []⟩ binds) (hloc : ∀ y ∈ binds, scope.names.lookup y.1 = some .local)
    (h : BodyOk prog w K qual scope f cdv [] body binds dep uni news Post)
    (hco : scope.isCoroutine = false) (hgen : scope.isGenerator = false) (hk : scope.kind = .function)
    (hcell : ∀ x ∈ scope.names, x.2 ≠ .cell) : CallOk prog w K f vs (dep + 1) (uni + 3) news Post := by
  intro p loose mean mg mb dp un gd cn cs a ccd cl outer A₀ base h₀ L m s Q E B F X N T hkc hd hu hret
  refine wpAny_call ?_
  refine callX_plain (cl := []) (binds := binds) (env := envX cn cs L a ccd cl) B F N T.nolimit rfl rfl hkc ((X.keeps F.keep) _ _ ho) rfl (codeRec_of (X.keeps F.keep) hcd) (by show dp < recursionLimit; omega) (hbind s) hloc (fun g L' h₁ FG F' N' B' st lt => ?_) hcell hco hgen hk
  refine wpAny_mono (h p loose mean mg mb (dp + 1) (un + 3) gd (envX cn cs L a ccd cl :: outer) _ base g L' { s with heap := h₁, toks := s.toks + binds.length } B' F' (X.keeps st) N' lt (T.keeps st) (by omega) (by omega)) (fun fl s' hl => ?_) (fun _ _ e => e.elim)
  obtain ⟨m', news', h', tk', rfl, F2, N2, hp⟩ := hl
  refine leaveK_ F2 N2 fun F3 N3 => ?_
  exact hret _ _ _ _ F3 N3 hp

theorem CallOk.use {prog : Program} {w : World} {K : Frag} {f : Addr} {vs : List Value} {dep uni : Nat} {news : Led} {Post : Value → Led → Prop}
    {p : Program} {loose : List Str} {mean : ExcName → Option Value} {mg mb : Str → Option Value} {dp un : Nat} {gd : Option (List Code)} {cn : Str} {cs : Scope} {a : Addr} {ccd : Value} {cl : List (Str × Addr)} {outer : List Env} {A₀ : Around} {base h₀ : Heap} {L : Addr} {m : Str → Option Value} {s : Shared} {Q E : Value → Shared → Prop}
    (C : CallOk prog w K f vs dep uni news Post) (B : Below A₀ base outer h₀) (F : Fr h₀ L s.heap m) (X : K.In h₀) (N : News h₀ L s.heap news) (T : Top p loose mean mg mb h₀) (hk : cs.kind = .function) (hd : dp + dep < recursionLimit) (hu : un + uni < cLine)
    (ret : ∀ r news' h' tk', Fr h₀ L h' m → News h₀ L h' news' → Post r news' → Q r { s with heap := h', toks := tk' }) :
    wpAny (model prog w) (ktrTop dp un gd cn cs L a ccd cl outer) (call (.ref f) vs) Q E s :=
  C p loose mean mg mb dp un gd cn cs a ccd cl outer A₀ base h₀ L m s Q E B F X N T hk hd hu ret
/-- the text parse257 gets, and what holds between the turns of its loop -/
def opening : List Nat := [50, 53, 55, 32, 34]
def PInv (t : List Nat) (i : Int) (d : Str) : Prop := 5 ≤ i ∧ i ≤ t.length + 5 ∧ (d.length : Int) ≤ i ∧ d.cps.toList ++ rd (t.drop (i - 5).toNat) = rd t
theorem item_open {t : List Nat} {i : Int} (h1 : 5 ≤ i) (h2 : i < (S (opening ++ t)).length) : ∃ c r, t.drop (i - 5).toNat = c :: r ∧ Txt.item (S (opening ++ t)) i = S [c] ∧ t.drop (i + 1 - 5).toNat = r := by
  rw [S_len] at h2
  have h3 : (opening ++ t).length = t.length + 5 := by simp [opening]
  have h4 : (i - 5).toNat < t.length := by omega
  refine ⟨t[(i - 5).toNat], t.drop ((i - 5).toNat + 1), List.drop_eq_getElem_cons h4, ?_, ?_⟩
  · rw [item_S (by omega) (by omega)]
    congr 1
    have h5 : i.toNat - opening.length = (i - 5).toNat := by simp [opening]; omega
    rw [List.getD_eq_getElem?_getD, List.getElem?_append_right (by simp [opening]; omega), h5, List.getElem?_eq_getElem h4]; rfl
  · congr 1; omega
theorem quote_lit : Str.ofString "\"" = S [34] := S_lit rfl
theorem S1_eq {c d : Nat} : (S [c] == S [d]) = decide (c = d) := by
  by_cases h : c = d
  · subst h; simp
  · have : ¬ S [c] = S [d] := fun e => h (by simpa using S_inj.mp e)
    simp [h, this]
theorem S1_ne {c d : Nat} : (S [c] != S [d]) = !decide (c = d) := by rw [bne, S1_eq]
theorem cps_app (a b : Str) : (a ++ b).cps.toList = a.cps.toList ++ b.cps.toList := by
  show (Str.append a b).cps.toList = _
  simp [Str.append]
theorem len_app (a b : Str) : (a ++ b).length = a.length + b.length := by
  show (Str.append a b).cps.size = _
  simp [Str.append, Str.length]
theorem S_cps (l : List Nat) : (S l).cps.toList = l := by simp [S]
theorem str_of_list {d : Str} {l : List Nat} (h : d.cps.toList = l) : d = S l := by rw [S_toList d, h]
section
variable {t : List Nat} {i : Int} {d : Str} {R : Str}
theorem PInv.char (hR : S (opening ++ t) = R) (h : PInv t i d) (hi : i < (R.length : Int)) (hq : (Txt.item R i == Str.ofString "\"") = false) : PInv t (i + 1) (d ++ Txt.item R i) := by
  subst hR
  obtain ⟨h1, h2, h3, h4⟩ := h
  obtain ⟨c, r, e1, e2, e3⟩ := item_open h1 hi
  have hl : (S (opening ++ t)).length = t.length + 5 := by rw [S_len]; simp [opening]
  rw [e2, quote_lit, S1_eq] at hq
  have hc : c ≠ 34 := by simpa using hq
  refine ⟨by omega, by omega, ?_, ?_⟩
  · rw [len_app, e2, S_len]; simp; omega
  · rw [cps_app, e2, e3, S_cps, ← h4, e1, rd_c _ hc]; simp
theorem PInv.quotes (hR : S (opening ++ t) = R) (h : PInv t i d) (hi : i < (R.length : Int)) (hq : (Txt.item R i == Str.ofString "\"") = true) (hn : ¬ (R.length : Int) ≤ i + 1) (hq2 : (Txt.item R (i + 1) != Str.ofString "\"") = false) : PInv t (i + 1 + 1) (d ++ Txt.item R i) := by
  subst hR
  obtain ⟨h1, h2, h3, h4⟩ := h
  obtain ⟨c, r, e1, e2, e3⟩ := item_open h1 hi
  obtain ⟨c2, r2, f1, f2, f3⟩ := item_open (t := t) (i := i + 1) (by omega) (by omega)
  have hl : (S (opening ++ t)).length = t.length + 5 := by rw [S_len]; simp [opening]
  rw [e2, quote_lit, S1_eq] at hq
  rw [f2, quote_lit, S1_ne] at hq2
  have hc : c = 34 := by simpa using hq
  have hc2 : c2 = 34 := by simpa using hq2
  subst hc hc2
  refine ⟨by omega, by omega, ?_, ?_⟩
  · rw [len_app, e2, S_len]; simp; omega
  · rw [cps_app, e2, f3, S_cps, ← h4, e1, ← e3, f1, rd_qq]; simp
theorem PInv.last (hR : S (opening ++ t) = R) (h : PInv t i d) (hi : i < (R.length : Int)) (hq : (Txt.item R i == Str.ofString "\"") = true) (hn : (R.length : Int) ≤ i + 1) : d = S (rd t) := by
  subst hR
  obtain ⟨h1, h2, h3, h4⟩ := h
  obtain ⟨c, r, e1, e2, e3⟩ := item_open h1 hi
  have hl : (S (opening ++ t)).length = t.length + 5 := by rw [S_len]; simp [opening]
  rw [e2, quote_lit, S1_eq] at hq
  have hc : c = 34 := by simpa using hq
  have hr : r = [] := by rw [← e3]; apply List.drop_eq_nil_of_le; omega
  subst hc hr
  rw [e1, rd_q1, List.append_nil] at h4
  exact str_of_list h4
theorem PInv.shut (hR : S (opening ++ t) = R) (h : PInv t i d) (hi : i < (R.length : Int)) (hq : (Txt.item R i == Str.ofString "\"") = true) (hn : ¬ (R.length : Int) ≤ i + 1) (hq2 : (Txt.item R (i + 1) != Str.ofString "\"") = true) : d = S (rd t) := by
  subst hR
  obtain ⟨h1, h2, h3, h4⟩ := h
  obtain ⟨c, r, e1, e2, e3⟩ := item_open h1 hi
  obtain ⟨c2, r2, f1, f2, f3⟩ := item_open (t := t) (i := i + 1) (by omega) (by omega)
  rw [e2, quote_lit, S1_eq] at hq
  rw [f2, quote_lit, S1_ne] at hq2
  have hc : c = 34 := by simpa using hq
  have hc2 : c2 ≠ 34 := by simpa using hq2
  subst hc
  rw [e1, ← e3, f1, rd_qc _ hc2, List.append_nil] at h4
  exact str_of_list h4
theorem PInv.out (hR : S (opening ++ t) = R) (h : PInv t i d) (hi : ¬ i < (R.length : Int)) : d = S (rd t) := by
  subst hR
  obtain ⟨h1, h2, h3, h4⟩ := h
  have hl : (S (opening ++ t)).length = t.length + 5 := by rw [S_len]; simp [opening]
  have hr : t.drop (i - 5).toNat = [] := by apply List.drop_eq_nil_of_le; omega
  rw [hr, rd_nil, List.append_nil] at h4
  exact str_of_list h4
end
end Mine

end
section
namespace Mine
abbrev iBits (x : Int) : Nat := Builtin.Int.intBits x
theorem pow_pos' (k : Nat) : (0 : Int) < 2 ^ k := kbt_pos k
theorem bits_of_lt {x : Int} {k : Nat} (h0 : 0 ≤ x) (h : x < 2 ^ k) : Builtin.Int.intBits x ≤ k := by
  refine intBits_le_iff.mpr ?_
  have : (x.natAbs : Int) < ((2 ^ k : Nat) : Int) := by rw [kbt_cast]; omega
  exact Int.ofNat_lt.mp this
theorem bits_of_lt' {x : Int} {k m : Nat} (h0 : 0 ≤ x) (h : x < 2 ^ k) (hk : k ≤ m) : Builtin.Int.intBits x ≤ m := Nat.le_trans (bits_of_lt h0 h) hk
theorem bitOr_nat (m n : Nat) : Builtin.bitOr (m : Int) (n : Int) = ((m ||| n : Nat) : Int) := by
  unfold Builtin.bitOr Builtin.bitAnd
  have h1 : ¬ (0 ≤ Builtin.bitNot (m : Int)) := by rw [kbt_not]; omega
  have h2 : ¬ (0 ≤ Builtin.bitNot (n : Int)) := by rw [kbt_not]; omega
  simp only [h1, h2, decide_false]
  have e1 : Builtin.bitNot (Builtin.bitNot (m : Int)) = m := by simp only [kbt_not]; omega
  have e2 : Builtin.bitNot (Builtin.bitNot (n : Int)) = n := by simp only [kbt_not]; omega
  rw [e1, e2]
  simp only [kbt_not, Int.toNat_natCast]
  omega
theorem bitAnd_nat (m n : Nat) : Builtin.bitAnd (m : Int) (n : Int) = ((m &&& n : Nat) : Int) := by
  unfold Builtin.bitAnd
  have h1 : (0 : Int) ≤ (m : Int) := by omega
  have h2 : (0 : Int) ≤ (n : Int) := by omega
  simp only [h1, h2, decide_true, Int.toNat_natCast]
theorem or_shift {x y : Int} {k : Nat} (hx : 0 ≤ x) (hy : 0 ≤ y) (h : y < 2 ^ k) : Builtin.bitOr (x * 2 ^ k) y = x * 2 ^ k + y := by
  obtain ⟨m, rfl⟩ := Int.eq_ofNat_of_zero_le hx
  obtain ⟨n, rfl⟩ := Int.eq_ofNat_of_zero_le hy
  have hn : n < 2 ^ k := by rw [← kbt_cast] at h; exact Int.ofNat_lt.mp h
  have e : (m : Int) * 2 ^ k = ((2 ^ k * m : Nat) : Int) := by rw [← kbt_cast, ← Int.natCast_mul, Nat.mul_comm]
  rw [e, bitOr_nat, ← Nat.two_pow_add_eq_or_of_lt hn]
  omega
theorem and_high (u l k : Nat) (h : l < 2 ^ k) : (2 ^ k * u + l) &&& (2 ^ k * u) = 2 ^ k * u := by
  have e1 := Nat.two_pow_add_eq_or_of_lt h u
  rw [e1]
  apply Nat.eq_of_testBit_eq
  intro i
  rw [Nat.testBit_and, Nat.testBit_or]
  cases (2 ^ k * u).testBit i <;> simp
theorem xor_low {x : Int} {k : Nat} (hx : 0 ≤ x) : Builtin.bitXor x (x.fdiv (2 ^ k) * 2 ^ k) = x % 2 ^ k := by
  rw [bitXor_and]
  have hp := pow_pos' k
  rw [Int.fdiv_eq_ediv_of_nonneg _ (Int.le_of_lt hp)]
  obtain ⟨m, rfl⟩ := Int.eq_ofNat_of_zero_le hx
  have e : ((m : Int) / 2 ^ k) * 2 ^ k = ((2 ^ k * (m / 2 ^ k) : Nat) : Int) := by
    rw [← kbt_cast, ← Int.natCast_ediv, ← Int.natCast_mul, Nat.mul_comm]
  rw [e, bitAnd_nat]
  have hl : m % 2 ^ k < 2 ^ k := Nat.mod_lt _ (Nat.two_pow_pos k)
  have h2 := and_high (m / 2 ^ k) (m % 2 ^ k) k hl
  rw [Nat.div_add_mod] at h2
  rw [h2, ← kbt_cast, ← Int.natCast_emod]
  have := Nat.div_add_mod m (2 ^ k)
  omega
theorem fdiv_pow (x : Int) (k : Nat) : x.fdiv (2 ^ k) = x / 2 ^ k := Int.fdiv_eq_ediv_of_nonneg _ (Int.le_of_lt (pow_pos' k))

theorem pos_factor {q b : Int} (hb : 0 < b) (h : 0 < (q + 1) * b) : 0 ≤ q := by
  rcases Int.lt_or_le q 0 with h1 | h1
  · have h2 : (q + 1) * b ≤ 0 * b := Int.mul_le_mul_of_nonneg_right (by omega) (Int.le_of_lt hb)
    rw [Int.zero_mul] at h2; omega
  · exact h1
abbrev pairObj (q r : Int) (t1 t2 : Tok) : Obj := { cls := .type "tuple", data := .seq [.int q t1, .int r t2].toArray }
def DivPost (A b : Int) (news : Led) (r : Value) (news' : Led) : Prop :=
  ∃ ad q rr t1 t2, r = .ref ad ∧ news' = (ad, pairObj q rr t1 t2) :: news ∧ (∀ p ∈ news, p.1 < ad) ∧ q * b + rr = A ∧ 0 ≤ rr ∧ rr < b
structure Pre2 (a b n : Int) : Prop where
  n0 : 0 < n
  n1 : n ≤ 8500
  b0 : 2 ^ (n - 1).toNat ≤ b
  b1 : b < 2 ^ n.toNat
  a0 : 0 ≤ a
  a1 : a < 2 ^ n.toNat * b
structure Pre3 (a12 a3 b b1 b2 n : Int) : Prop where
  n0 : 0 < n
  n1 : n ≤ 8500
  b10 : 2 ^ (n - 1).toNat ≤ b1
  b11 : b1 < 2 ^ n.toNat
  b20 : 0 ≤ b2
  b21 : b2 < 2 ^ n.toNat
  hb : b = b1 * 2 ^ n.toNat + b2
  a30 : 0 ≤ a3
  a31 : a3 < 2 ^ n.toNat
  a0 : 0 ≤ a12
  a1 : a12 < b
section
variable {a12 a3 b b1 b2 n : Int}
theorem Pre3.b1pos (hp : Pre3 a12 a3 b b1 b2 n) : 0 < b1 := Int.lt_of_lt_of_le (pow_pos' _) hp.b10
theorem Pre3.bpos (hp : Pre3 a12 a3 b b1 b2 n) : 0 < b := by
  have h1 := hp.b1pos
  have h2 := Int.mul_pos h1 (pow_pos' n.toNat)
  have h3 := hp.b20
  rw [hp.hb]; omega
theorem Pre3.two (hp : Pre3 a12 a3 b b1 b2 n) (hne : a12.fdiv (2 ^ n.toNat) ≠ b1) : Pre2 a12 b1 n := by
  have hP := pow_pos' n.toNat
  refine ⟨hp.n0, hp.n1, hp.b10, hp.b11, hp.a0, ?_⟩
  rw [fdiv_pow] at hne
  have hne' : a12 / 2 ^ n.toNat ≠ b1 := hne
  have h1 := hp.a1
  rw [hp.hb] at h1
  have h2 := hp.b21
  have h3 : a12 < (b1 + 1) * 2 ^ n.toNat := by rw [Int.add_mul]; omega
  have h4 : a12 / 2 ^ n.toNat < b1 + 1 := Int.ediv_lt_of_lt_mul hP h3
  have h5 : a12 / 2 ^ n.toNat < b1 := by omega
  rw [Int.mul_comm]
  exact Int.lt_mul_of_ediv_lt hP h5
theorem Pre3.bits (hp : Pre3 a12 a3 b b1 b2 n) : Builtin.Int.intBits b1 ≤ 8500 ∧ Builtin.Int.intBits b2 ≤ 8500 ∧ Builtin.Int.intBits b ≤ 17000 ∧ Builtin.Int.intBits a12 ≤ 17000 := by
  have n1 := hp.n1
  have hP := pow_pos' n.toNat
  have hb : b < 2 ^ (n.toNat + n.toNat) := by
    have h2 := hp.b21
    have h3 := hp.b11
    have h4 : b1 * 2 ^ n.toNat + b2 < (b1 + 1) * 2 ^ n.toNat := by rw [Int.add_mul]; omega
    have h5 : (b1 + 1) * 2 ^ n.toNat ≤ 2 ^ n.toNat * 2 ^ n.toNat := Int.mul_le_mul_of_nonneg_right (by omega) (Int.le_of_lt hP)
    rw [hp.hb, Int.pow_add]; omega
  have := hp.bpos
  have := hp.a1
  exact ⟨bits_of_lt' (Int.le_of_lt hp.b1pos) hp.b11 (by omega), bits_of_lt' hp.b20 hp.b21 (by omega), bits_of_lt' (by omega) hb (by omega), bits_of_lt' hp.a0 (by omega) (by omega : n.toNat + n.toNat ≤ 17000)⟩
theorem divBits {q b r a : Int} {m : Nat} (hb : 0 < b) (ha : 0 ≤ a) (hm : Builtin.Int.intBits a ≤ m) (h : q * b + r = a) (h0 : 0 ≤ r) (h1 : r < b) : Builtin.Int.intBits q ≤ m ∧ Builtin.Int.intBits r ≤ m := by
  have hq : 0 ≤ q := pos_factor hb (by rw [Int.add_mul]; omega)
  have h3 : q * 1 ≤ q * b := Int.mul_le_mul_of_nonneg_left (by omega) hq
  have h4 : 0 ≤ q * b := Int.mul_nonneg hq (by omega)
  exact ⟨intBits_le_of_natAbs (by omega) hm, intBits_le_of_natAbs (by omega) hm⟩
/-- the remainder that _div3n2n begins with -/
abbrev r3 (r a3 q b2 n : Int) : Int := Builtin.bitOr (r * 2 ^ n.toNat) a3 - q * b2
theorem Pre3.start {q r : Int} (hp : Pre3 a12 a3 b b1 b2 n) (h : q * b1 + r = a12) (hr : 0 ≤ r) : q * b + r3 r a3 q b2 n = a12 * 2 ^ n.toNat + a3 := by
  unfold r3
  rw [or_shift hr hp.a30 hp.a31, hp.hb, ← h]
  generalize (2 : Int) ^ n.toNat = P
  grind
theorem Pre3.start2 {q r : Int} (hp : Pre3 a12 a3 b b1 b2 n) (h : q * b1 + r = a12) (hr : 0 ≤ r) (hr1 : r < b1) : r3 r a3 q b2 n < b := by
  unfold r3
  rw [or_shift hr hp.a30 hp.a31, hp.hb]
  have hq : 0 ≤ q := by
    have h1 := hp.b1pos
    have h2 := hp.a0
    have h3 : 0 < (q + 1) * b1 := by rw [Int.add_mul]; omega
    exact pos_factor h1 h3
  have h4 := Int.mul_nonneg hq hp.b20
  have h5 : (r + 1) * 2 ^ n.toNat ≤ b1 * 2 ^ n.toNat := Int.mul_le_mul_of_nonneg_right (by omega) (Int.le_of_lt (pow_pos' _))
  have h6 := hp.a31
  have h7 := hp.b20
  rw [Int.add_mul] at h5
  omega
theorem Pre3.start1 (hp : Pre3 a12 a3 b b1 b2 n) (he : a12.fdiv (2 ^ n.toNat) = b1) : 0 ≤ a12 - b1 * 2 ^ n.toNat + b1 ∧ (1 * 2 ^ n.toNat - 1) * b1 + (a12 - b1 * 2 ^ n.toNat + b1) = a12 := by
  rw [fdiv_pow] at he
  have he' : a12 / 2 ^ n.toNat = b1 := he
  have h1 := Int.ediv_mul_le a12 (show (2 : Int) ^ n.toNat ≠ 0 from Int.ne_of_gt (pow_pos' _))
  rw [he'] at h1
  have := hp.b1pos
  refine ⟨by omega, ?_⟩
  generalize (2 : Int) ^ n.toNat = P
  grind
theorem Pre3.less {q r : Int} (hp : Pre3 a12 a3 b b1 b2 n) (hq : q = 1 * 2 ^ n.toNat - 1) (h : q * b + r = a12 * 2 ^ n.toNat + a3) : r < b := by
  have h1 : (a12 + 1) * 2 ^ n.toNat ≤ b * 2 ^ n.toNat := Int.mul_le_mul_of_nonneg_right (by have := hp.a1; omega) (Int.le_of_lt (pow_pos' _))
  have h2 := hp.a31
  rw [hq] at h
  rw [Int.add_mul] at h1
  have h3 : (1 * 2 ^ n.toNat - 1) * b = b * 2 ^ n.toNat - b := by
    generalize (2 : Int) ^ n.toNat = P
    grind
  omega
end
end Mine
namespace Mine
section
variable {a b n : Int}
theorem Pre2.bpos (hp : Pre2 a b n) : 0 < b := Int.lt_of_lt_of_le (pow_pos' _) hp.b0
theorem Pre2.bne (hp : Pre2 a b n) : b ≠ 0 := Int.ne_of_gt hp.bpos
theorem Pre2.py (hp : Pre2 a b n) : Builtin.divisionGoesByPylong a b = false := by
  refine PyProof.noPylong_of_log2 ?_
  have h1 := bits_of_lt (Int.le_of_lt hp.bpos) hp.b1
  unfold Builtin.Int.intBits at h1
  have h2 := hp.bne
  have h3 := hp.n1
  rw [if_neg (by simpa using h2)] at h1
  omega
theorem Pre2.bits (hp : Pre2 a b n) : Builtin.Int.intBits a ≤ 17000 ∧ Builtin.Int.intBits b ≤ 8500 := by
  have n1 := hp.n1
  have h1 : a < 2 ^ (n.toNat + n.toNat) := by
    rw [Int.pow_add]
    exact Int.lt_of_lt_of_le hp.a1 (Int.mul_le_mul_of_nonneg_left (Int.le_of_lt hp.b1) (Int.le_of_lt (pow_pos' _)))
  exact ⟨bits_of_lt' hp.a0 h1 (by omega), bits_of_lt' (Int.le_of_lt hp.bpos) hp.b1 (by omega)⟩
theorem Pre2.twice (hp : Pre2 a b n) : (Builtin.Int.intBits a : Int) ≤ 2 * n := by
  have n0 := hp.n0
  have h1 : a < 2 ^ (n.toNat + n.toNat) := by
    rw [Int.pow_add]
    exact Int.lt_of_lt_of_le hp.a1 (Int.mul_le_mul_of_nonneg_left (Int.le_of_lt hp.b1) (Int.le_of_lt (pow_pos' _)))
  have := bits_of_lt hp.a0 h1
  omega
theorem Pre2.small (hp : Pre2 a b n) (hn : n ≤ 2000 * 2 ^ 0) : (Builtin.Int.intBits a : Int) - n ≤ 4000 := by
  have := hp.twice
  omega
end
end Mine
namespace Mine
section
variable {prog : Program} {w : World} {A : Around} {E : Value → Shared → Prop} {s : Shared} {a n : Int} {t u : Tok} {Q : Value → Shared → Prop}
theorem shl_one (hn : 0 ≤ n) (hn2 : n ≤ 1000000) (h : Q (.int (2 ^ n.toNat) s.toks) { s with toks := s.toks + 1 }) : wpAny (model prog w) A (binaryOp .LShift (.int 1 t) (.int n u)) Q E s :=
  lshift_int_small hn hn2 (by decide) (by rw [Int.one_mul]; exact h)
theorem shl_any {m : Nat} (hn : 0 ≤ n) (hn2 : n ≤ 1000000) (ha : Builtin.Int.intBits a ≤ m) (hm : m ≤ 133000000) (h : Q (.int (a * 2 ^ n.toNat) s.toks) { s with toks := s.toks + 1 }) : wpAny (model prog w) A (binaryOp .LShift (.int a t) (.int n u)) Q E s :=
  lshift_int hn (kbm_shl ha hn2 hm) h
theorem ishl_one {m : Nat} (ha : Builtin.Int.intBits a ≤ m) (hm : m ≤ 133000000) (h : Q (.int (a * 2) s.toks) { s with toks := s.toks + 1 }) : wpAny (model prog w) A (inplaceOp .LShift (.int a t) (.int 1 u)) Q E s :=
  ilshift_int (by decide) (kbm_shl ha (by decide) hm) h
theorem shr_one (h : Q (.int (a / 2) s.toks) { s with toks := s.toks + 1 }) : wpAny (model prog w) A (binaryOp .RShift (.int a t) (.int 1 u)) Q E s :=
  rshift_int (by decide) (by rw [fdiv_pow]; exact h)
theorem ishr_one (h : Q (.int (a / 2) s.toks) { s with toks := s.toks + 1 }) : wpAny (model prog w) A (inplaceOp .RShift (.int a t) (.int 1 u)) Q E s :=
  irshift_int (by decide) (by rw [fdiv_pow]; exact h)
theorem shr_any (hn : 0 ≤ n) (h : Q (.int (a / 2 ^ n.toNat) s.toks) { s with toks := s.toks + 1 }) : wpAny (model prog w) A (binaryOp .RShift (.int a t) (.int n u)) Q E s :=
  rshift_int hn (by rw [fdiv_pow]; exact h)
theorem and_one (h : Q (.int (a % 2) s.toks) { s with toks := s.toks + 1 }) : wpAny (model prog w) A (binaryOp .BitAnd (.int a t) (.int 1 u)) Q E s :=
  and_int (by rw [bitAnd_m1]; exact h)
theorem and_mask {k : Nat} (h : Q (.int (a % 2 ^ k) s.toks) { s with toks := s.toks + 1 }) : wpAny (model prog w) A (binaryOp .BitAnd (.int a t) (.int (2 ^ k - 1) u)) Q E s :=
  and_int (by rw [kbt_mask]; exact h)
theorem or_shifted {x y : Int} {k : Nat} (hx : 0 ≤ x) (hy : 0 ≤ y) (hk : y < 2 ^ k) (h : Q (.int (x * 2 ^ k + y) s.toks) { s with toks := s.toks + 1 }) : wpAny (model prog w) A (binaryOp .BitOr (.int (x * 2 ^ k) t) (.int y u)) Q E s :=
  or_int (by rw [or_shift hx hy hk]; exact h)
end
end Mine
namespace Mine
section
variable {a b n : Int}
theorem pow_half {n : Int} (h0 : 0 < n) (he : n % 2 = 0) : (2 : Int) ^ n.toNat = 2 ^ (n / 2).toNat * 2 ^ (n / 2).toNat := by
  rw [← Int.pow_add]; congr 1; omega
theorem pow_pred {h : Int} (h0 : 0 < h) : (2 : Int) ^ h.toNat = 2 * 2 ^ (h - 1).toNat := by
  have e : h.toNat = (h - 1).toNat + 1 := by omega
  rw [e, Int.pow_succ, Int.mul_comm]
theorem Pre2.halves (hp : Pre2 a b n) (he : n % 2 = 0) (h2 : 2 ≤ n) : 2 ^ (n / 2 - 1).toNat ≤ b / 2 ^ (n / 2).toNat ∧ b / 2 ^ (n / 2).toNat < 2 ^ (n / 2).toNat ∧ 0 ≤ b % 2 ^ (n / 2).toNat ∧ b % 2 ^ (n / 2).toNat < 2 ^ (n / 2).toNat ∧ b = b / 2 ^ (n / 2).toNat * 2 ^ (n / 2).toNat + b % 2 ^ (n / 2).toNat := by
  have hP := pow_pos' (n / 2).toNat
  have hb1 := hp.b1
  have hb0 := hp.b0
  rw [pow_half hp.n0 he] at hb1
  have e : (2 : Int) ^ (n - 1).toNat = 2 ^ (n / 2 - 1).toNat * 2 ^ (n / 2).toNat := by
    rw [← Int.pow_add]; congr 1; omega
  rw [e] at hb0
  refine ⟨(Int.le_ediv_iff_mul_le hP).mpr hb0, Int.ediv_lt_of_lt_mul hP hb1, Int.emod_nonneg _ (Int.ne_of_gt hP), Int.emod_lt_of_pos _ hP, ?_⟩
  have := Int.mul_ediv_add_emod b (2 ^ (n / 2).toNat)
  rw [Int.mul_comm] at this
  exact this.symm
theorem Pre2.first (hp : Pre2 a b n) (he : n % 2 = 0) (h2 : 2 ≤ n) : Pre3 (a / 2 ^ n.toNat) (a / 2 ^ (n / 2).toNat % 2 ^ (n / 2).toNat) b (b / 2 ^ (n / 2).toNat) (b % 2 ^ (n / 2).toNat) (n / 2) := by
  obtain ⟨h3, h4, h5, h6, h7⟩ := hp.halves he h2
  have hP := pow_pos' (n / 2).toNat
  have n1 := hp.n1
  refine ⟨by omega, by omega, h3, h4, h5, h6, h7, Int.emod_nonneg _ (Int.ne_of_gt hP), Int.emod_lt_of_pos _ hP, Int.ediv_nonneg hp.a0 (Int.le_of_lt (pow_pos' _)), ?_⟩
  refine Int.ediv_lt_of_lt_mul (pow_pos' _) ?_
  rw [Int.mul_comm]; exact hp.a1
theorem Pre2.second {r : Int} (hp : Pre2 a b n) (he : n % 2 = 0) (h2 : 2 ≤ n) (hr : 0 ≤ r) (hr1 : r < b) : Pre3 r (a % 2 ^ (n / 2).toNat) b (b / 2 ^ (n / 2).toNat) (b % 2 ^ (n / 2).toNat) (n / 2) := by
  obtain ⟨h3, h4, h5, h6, h7⟩ := hp.halves he h2
  have hP := pow_pos' (n / 2).toNat
  have n1 := hp.n1
  exact ⟨by omega, by omega, h3, h4, h5, h6, h7, Int.emod_nonneg _ (Int.ne_of_gt hP), Int.emod_lt_of_pos _ hP, hr, hr1⟩
theorem Pre2.join {q1 r1 q2 r2 : Int} (hp : Pre2 a b n) (he : n % 2 = 0)
    (e1 : q1 * b + r1 = a / 2 ^ n.toNat * 2 ^ (n / 2).toNat + a / 2 ^ (n / 2).toNat % 2 ^ (n / 2).toNat) (hr0 : 0 ≤ r1) (hr1 : r1 < b)
    (e2 : q2 * b + r2 = r1 * 2 ^ (n / 2).toNat + a % 2 ^ (n / 2).toNat) (hs0 : 0 ≤ r2) (hs1 : r2 < b) :
    0 ≤ q1 ∧ 0 ≤ q2 ∧ q2 < 2 ^ (n / 2).toNat ∧ (q1 * 2 ^ (n / 2).toNat + q2) * b + r2 = a := by
  have hb := hp.bpos
  have hP := pow_pos' (n / 2).toNat
  rw [pow_half hp.n0 he] at e1
  have d1 : a / (2 ^ (n / 2).toNat * 2 ^ (n / 2).toNat) = a / 2 ^ (n / 2).toNat / 2 ^ (n / 2).toNat := by
    rw [Int.ediv_ediv_of_nonneg (Int.le_of_lt hP)]
  rw [d1] at e1
  generalize (2 : Int) ^ (n / 2).toNat = P at *
  have d2 := Int.mul_ediv_add_emod (a / P) P
  have d3 := Int.mul_ediv_add_emod a P
  have m1 := Int.emod_nonneg a (Int.ne_of_gt hP)
  have m2 := Int.emod_lt_of_pos a hP
  have e3 : q1 * b + r1 = a / P := by rw [e1, Int.mul_comm]; exact d2
  have a1 : 0 ≤ a / P := Int.ediv_nonneg hp.a0 (Int.le_of_lt hP)
  have p1 : 0 ≤ r1 * P := Int.mul_nonneg hr0 (Int.le_of_lt hP)
  refine ⟨pos_factor hb (by rw [Int.add_mul]; omega), pos_factor hb (by rw [Int.add_mul]; omega), ?_, ?_⟩
  · have h1 : (r1 + 1) * P ≤ b * P := Int.mul_le_mul_of_nonneg_right (by omega) (Int.le_of_lt hP)
    rw [Int.add_mul] at h1
    have h2 : q2 * b < P * b := by rw [Int.mul_comm P b]; omega
    exact Int.lt_of_mul_lt_mul_right h2 (Int.le_of_lt hb)
  · have h3 : P * (q1 * b + r1) + a % P = a := by rw [e3]; exact d3
    rw [Int.add_mul]
    have h4 : q1 * P * b = P * (q1 * b + r1) - r1 * P := by grind
    omega
theorem Pre2.pad (hp : Pre2 a b n) (ho : n % 2 ≠ 0) : Pre2 (a * 2) (b * 2) (n + 1) := by
  have n0 := hp.n0
  have n1 := hp.n1
  have h0 := hp.b0
  have h1 := hp.b1
  have h2 := hp.a1
  have e1 : (2 : Int) ^ (n + 1).toNat = 2 * 2 ^ n.toNat := by
    rw [pow_pred (h := n + 1) (by omega)]; congr 2; omega
  have e2 : (2 : Int) ^ (n + 1 - 1).toNat = 2 * 2 ^ (n - 1).toNat := by
    rw [show n + 1 - 1 = n by omega, pow_pred n0]
  refine ⟨by omega, by omega, by rw [e2]; omega, by rw [e1]; omega, by have := hp.a0; omega, ?_⟩
  rw [e1]
  generalize (2 : Int) ^ n.toNat = P at *
  have h3 : 2 * P * (b * 2) = 4 * (P * b) := by grind
  have := hp.a0
  omega
theorem unpad {q r a b : Int} (h : q * (b * 2) + r = a * 2) (h0 : 0 ≤ r) (h1 : r < b * 2) : q * b + r / 2 = a ∧ 0 ≤ r / 2 ∧ r / 2 < b := by
  have e : q * (b * 2) = 2 * (q * b) := by grind
  rw [e] at h
  generalize q * b = x at *
  omega
theorem divPost_div {news : Led} {ad : Addr} {t1 t2 : Tok} (hp : Pre2 a b n) (hl : ∀ p ∈ news, p.1 < ad) : DivPost a b news (.ref ad) ((ad, pairObj (a.fdiv b) (a.fmod b) t1 t2) :: news) := by
  have hb := hp.bpos
  have f := fdiv_fmod_facts a b
  refine ⟨ad, _, _, t1, t2, rfl, rfl, hl, ?_, (f.2.2.1 hb).1, (f.2.2.1 hb).2⟩
  exact f.1
end
end Mine
namespace Mine
theorem Pre2.bitsQ {a b n q1 r1 : Int} (hp : Pre2 a b n) (he : n % 2 = 0)
    (e1 : q1 * b + r1 = a / 2 ^ n.toNat * 2 ^ (n / 2).toNat + a / 2 ^ (n / 2).toNat % 2 ^ (n / 2).toNat) (hr0 : 0 ≤ r1) (hr1 : r1 < b) : Builtin.Int.intBits q1 ≤ 17000 := by
  have hP := pow_pos' (n / 2).toNat
  have e2 : a / 2 ^ n.toNat * 2 ^ (n / 2).toNat + a / 2 ^ (n / 2).toNat % 2 ^ (n / 2).toNat = a / 2 ^ (n / 2).toNat := by
    rw [pow_half hp.n0 he, ← Int.ediv_ediv_of_nonneg (Int.le_of_lt hP), Int.mul_comm]
    exact Int.mul_ediv_add_emod _ _
  rw [e2, ← fdiv_pow] at e1
  have h0 : 0 ≤ a.fdiv (2 ^ (n / 2).toNat) := by rw [fdiv_pow]; exact Int.ediv_nonneg hp.a0 (Int.le_of_lt hP)
  exact (divBits hp.bpos h0 (intBits_fdiv_le hp.bits.1) e1 hr0 hr1).1
end Mine
namespace Mine
theorem led_sub {g h : Heap} {L : Addr} {x : Addr × Obj} {l news : Led} (N : News g L h (x :: l)) (hs : ∀ p ∈ news, p ∈ l) : News g L h (x :: news) := fun p hp => by
  rcases List.mem_cons.mp hp with rfl | hp
  · exact N _ (.head _)
  · exact N p (.tail _ (hs p hp))
end Mine

end
section
namespace Mine
def BodyOkC (prog : Program) (w : World) (K : Frag) (qual : Str) (scope : Scope) (f : Addr) (cdv : Value) (body : List Stmt) (binds : List (Str × Value)) (dep uni : Nat) (news : Led) (Post : Value → Led → Prop) : Prop :=
  ∀ (p : Program) (loose : List Str) (mean : ExcName → Option Value) (mg mb : Str → Option Value) (dp un : Nat) (gd : Option (List Code)) (outer : List Env) (A₀ : Around) (base g : Heap) (L : Addr) (s : Shared) (cells : Led),
    Below A₀ base outer g → Fr g L s.heap (bindL (envOfC qual scope L f cdv).kindOf binds fun _ => none) → K.In g → News g L s.heap (cells ++ news) →
    CellsAre (bindC (envOfC qual scope L f cdv).kindOf binds fun _ => none) (cellsFrom (L + 1) scope.names []) cells → (∀ p ∈ news, p.1 < L) → Top p loose mean mg mb g → dp + dep < recursionLimit → un + uni < cLine →
    wpAny (model prog w) (ktrTop dp un gd qual scope L f cdv (cellsFrom (L + 1) scope.names []) outer) (execs body (envX qual scope L f cdv (cellsFrom (L + 1) scope.names []))) (Ends g L s Post) (fun _ _ => False) s
theorem callOk_of_bodyC {prog : Program} {w : World} {K : Frag} {f : Addr} {vs : List Value} {dep uni : Nat} {news : Led} {Post : Value → Led → Prop}
    {name qual : Str} {params : Arguments} {body : List Stmt} {scope : Scope} {dV kV doc pm cdv ct oc : Value} {an od : Option Addr} {osl : Array (Option Value)} (binds : List (Str × Value))
    (ho : K.lookup f = some ⟨oc, od, .func (fnOf name qual params body scope dV kV doc pm an cdv ct), osl⟩) (hcd : codeIn K cdv qual = true)
    (hbind : ∀ s, BindsTo s (fnOf name qual params body scope dV kV doc pm an cdv ct) ⟨vs, []⟩ binds)
    (hkind : (binds.all fun y => scope.names.lookup y.1 == some .local || scope.names.lookup y.1 == some .cell) = true) (hnd : ((cellsFrom 0 scope.names []).map (·.1)).Nodup)
    (h : BodyOkC prog w K qual scope f cdv body binds dep uni news Post)
    (hco : scope.isCoroutine = false) (hgen : scope.isGenerator = false) (hk : scope.kind = .function) : CallOk prog w K f vs (dep + 1) (uni + 3) news Post := by
  intro p loose mean mg mb dp un gd cn cs a ccd cl outer A₀ base h₀ L m s Q E B F X N T hkc hd hu hret
  refine wpAny_call ?_
  refine code_defC (binds := binds) (env := envX cn cs L a ccd cl) B F X N T rfl rfl hkc ho hcd (by show dp < recursionLimit; omega) (hbind s) hkind hnd (fun g L' h₁ tk cells FG F' N' Y B' X' T' lt => ?_) hco hgen hk
  refine wpAny_mono (h p loose mean mg mb (dp + 1) (un + 3) gd (envX cn cs L a ccd cl :: outer) _ base g L' { s with heap := h₁, toks := tk } cells B' F' X' N' Y lt T' (by omega) (by omega)) (fun fl s' hl => ?_) (fun _ _ e => e.elim)
  obtain ⟨m', news', h', tk', rfl, F2, N2, hp⟩ := hl
  exact leaveK_ F2 N2 fun F3 N3 => hret _ _ _ _ F3 N3 hp
/-- a def made in a body: its function object and its code object stand in the ledger -/
theorem callOk_of_nest {prog : Program} {w : World} {K : Frag} {f c : Addr} {oc : Obj} {cvs : Array Value} {tq : Tok} {vs : List Value} {dep uni : Nat} {news : Led} {Post : Value → Led → Prop}
    {name qual : Str} {params : Arguments} {body : List Stmt} {scope : Scope} {doc pm ctv : Value} {cl : List (Str × Addr)} (binds : List (Str × Value))
    (ho : (f, fnMade name qual params body scope cl doc pm c ctv) ∈ news) (hoc : (c, oc) ∈ news) (hcd : oc.data = .fields cvs) (hcv : cvs[1]? = some (.str qual tq))
    (hbind : ∀ s, BindsTo s (fnX name qual params body scope cl .none .none doc pm none (.ref c) ctv) ⟨vs, []⟩ binds) (hloc : ∀ y ∈ binds, scope.names.lookup y.1 = some .local)
    (h : BodyOk prog w K qual scope f (.ref c) cl body binds dep uni news Post)
    (hco : scope.isCoroutine = false) (hgen : scope.isGenerator = false) (hk : scope.kind = .function)
    (hcell : ∀ x ∈ scope.names, x.2 ≠ .cell) : CallOk prog w K f vs (dep + 1) (uni + 3) news Post := by
  intro p loose mean mg mb dp un gd cn cs a ccd cl' outer A₀ base h₀ L m s Q E B F X N T hkc hd hu hret
  refine wpAny_call ?_
  refine callX_plain (cl := cl) (binds := binds) (env := envX cn cs L a ccd cl') B F N T.nolimit rfl rfl hkc (N _ ho).1 rfl (codeRec_news N hoc hcd hcv) (by show dp < recursionLimit; omega) (hbind s) hloc (fun g L' h₁ FG F' N' B' st lt => ?_) hcell hco hgen hk
  refine wpAny_mono (h p loose mean mg mb (dp + 1) (un + 3) gd (envX cn cs L a ccd cl' :: outer) _ base g L' { s with heap := h₁, toks := s.toks + binds.length } B' F' (X.keeps st) N' lt (T.keeps st) (by omega) (by omega)) (fun fl s' hl => ?_) (fun _ _ e => e.elim)
  obtain ⟨m', news', h', tk', rfl, F2, N2, hp⟩ := hl
  exact leaveK_ F2 N2 fun F3 N3 => hret _ _ _ _ F3 N3 hp
/-- the table of the codes that a def makes in its body: at its first run and later -/
inductive Tab (P : Addr) (pos : Pos) (qual : Str) : Led → Prop where
  | cold : Tab P pos qual [(P, tabObj #[])]
  | warm {c : Addr} {oc : Obj} {vs : Array Value} {t : Tok} : oc.data = .fields vs → vs[1]? = some (.str qual t) → c ≠ P → Tab P pos qual [(P, tabObj #[rawInt pos.line, rawInt pos.col, .ref c]), (c, oc)]
end Mine
namespace Mine
theorem cnt_bounds {a n : Int} (hn : 0 < n) (hc : (Builtin.Int.intBits a : Int) ≤ 1000 * n) : 0 ≤ ((Builtin.Int.intBits a : Int) + n - 1).fdiv n ∧ ((Builtin.Int.intBits a : Int) + n - 1).fdiv n ≤ 1000 := by
  rw [Int.fdiv_eq_ediv_of_nonneg _ (Int.le_of_lt hn)]
  refine ⟨Int.ediv_nonneg (by omega) (by omega), ?_⟩
  have : (Builtin.Int.intBits a : Int) + n - 1 < 1001 * n := by omega
  have := Int.ediv_lt_of_lt_mul hn this
  omega
end Mine
namespace Mine
theorem allNe {l : Led} {L x : Nat} (h : ∀ p ∈ l, p.1 < L) (hx : L ≤ x) : ∀ p ∈ l, p.1 ≠ x := fun p hp => Nat.ne_of_lt (Nat.lt_of_lt_of_le (h p hp) hx)
end Mine
namespace Mine
def nested (K : Frag) (f : Addr) (i : Nat) : Option (Str × Arguments × List Stmt × Scope) := match K.lookup f with
  | some ⟨_, _, .func fd, _⟩ => (match fd.body with
    | .stmts b => (match b[i]? with
      | some (.FunctionDef name args body _ _ _ scope _ _ _) => some (name, args, body, scope)
      | _ => none)
    | _ => none)
  | _ => none
/-- the digits of x to the base 2 ^ n, the lowest first, so many -/
def digs (n : Nat) (x : Int) : Nat → List Int
  | 0 => []
  | k + 1 => x % 2 ^ n :: digs n (x / 2 ^ n) k
theorem digs_len (n : Nat) : ∀ (k : Nat) (x : Int), (digs n x k).length = k
  | 0, _ => rfl
  | k + 1, x => by rw [digs, List.length_cons, digs_len]
theorem ediv_pow_pow (x : Int) (a b : Nat) : x / 2 ^ a / 2 ^ b = x / 2 ^ (a + b) := by
  rw [Int.ediv_ediv_of_nonneg (Int.le_of_lt (pow_pos' a)), ← Int.pow_add]
theorem digs_app (n : Nat) (j : Nat) : ∀ (i : Nat) (x : Int), digs n x (i + j) = digs n x i ++ digs n (x / 2 ^ (n * i)) j
  | 0, x => by simp [digs]
  | i + 1, x => by
    rw [show i + 1 + j = (i + j) + 1 by omega, digs, digs, digs_app n j i, List.cons_append, ediv_pow_pow, show n + n * i = n * (i + 1) by rw [Nat.mul_succ]; omega]
theorem emod_pow_pow (x : Int) (a b : Nat) : x % 2 ^ (a + b) % 2 ^ a = x % 2 ^ a := by
  rw [Int.pow_add, Int.emod_emod_of_dvd _ (Int.dvd_mul_right _ _)]
theorem emod_ediv_pow (x : Int) (a b : Nat) : x % 2 ^ (a + b) / 2 ^ a = x / 2 ^ a % 2 ^ b := by
  have hp := pow_pos' a
  have hq := pow_pos' b
  rw [Int.pow_add]
  have e1 := Int.mul_ediv_add_emod x (2 ^ a * 2 ^ b)
  have e2 := Int.mul_ediv_add_emod (x / 2 ^ a) (2 ^ b)
  have e3 := Int.mul_ediv_add_emod x (2 ^ a)
  have e4 : x / 2 ^ a / 2 ^ b = x / (2 ^ a * 2 ^ b) := Int.ediv_ediv_of_nonneg (Int.le_of_lt hp)
  rw [e4] at e2
  have m1 := Int.emod_nonneg x (Int.ne_of_gt hp)
  have m2 := Int.emod_lt_of_pos x hp
  generalize (2 : Int) ^ a = P at *
  generalize (2 : Int) ^ b = Q at *
  have e5 : x % (P * Q) = x % P + P * (x / P % Q) := by
    have : P * (Q * (x / (P * Q)) + x / P % Q) + x % P = x := by rw [e2]; exact e3
    have h6 : P * (Q * (x / (P * Q)) + x / P % Q) = P * Q * (x / (P * Q)) + P * (x / P % Q) := by grind
    omega
  rw [e5, Int.add_mul_ediv_left _ _ (Int.ne_of_gt hp), Int.ediv_eq_zero_of_lt m1 m2, Int.zero_add]
theorem digs_mod (n : Nat) : ∀ (i : Nat) (x : Int), digs n (x % 2 ^ (n * i)) i = digs n x i
  | 0, _ => rfl
  | i + 1, x => by
    rw [digs, digs, show n * (i + 1) = n + n * i by rw [Nat.mul_succ]; omega, emod_pow_pow, emod_ediv_pow, digs_mod n i]
theorem digs_one {n : Nat} {x : Int} (h0 : 0 ≤ x) (h : x < 2 ^ n) : digs n x 1 = [x] := by
  rw [digs, digs, Int.emod_eq_of_lt h0 h]
/-- places lo up to hi of ns hold the digits of x -/
def laid (n : Nat) (x : Int) (ns : List Int) (lo hi : Int) : List Int := ns.take lo.toNat ++ digs n x (hi - lo).toNat ++ ns.drop hi.toNat
theorem laid_len {n : Nat} {x : Int} {ns : List Int} {lo hi : Int} (h0 : 0 ≤ lo) (h1 : lo < hi) (h2 : hi ≤ ns.length) : (laid n x ns lo hi).length = ns.length := by
  simp only [laid, List.length_append, List.length_take, List.length_drop, digs_len]
  omega
theorem laid_one {n : Nat} {x : Int} {ns : List Int} {lo hi : Int} (h0 : 0 ≤ lo) (h1 : lo + 1 = hi) (h2 : hi ≤ ns.length) (hx : 0 ≤ x) (hx1 : x < 2 ^ n) : ns.set lo.toNat x = laid n x ns lo hi := by
  unfold laid
  rw [show (hi - lo).toNat = 1 by omega, digs_one hx hx1, show hi.toNat = lo.toNat + 1 by omega, List.set_eq_take_append_cons_drop, if_pos (by omega)]
  simp
theorem laid_two {n : Nat} {x : Int} {ns : List Int} {lo mid hi : Int} (h0 : 0 ≤ lo) (h1 : lo < mid) (h2 : mid < hi) (h3 : hi ≤ ns.length) {sh : Nat} (hs : sh = n * (mid - lo).toNat) :
    laid n (x / 2 ^ sh) (laid n (x % 2 ^ sh) ns lo mid) mid hi = laid n x ns lo hi := by
  subst hs
  unfold laid
  rw [digs_mod, show (hi - lo).toNat = (mid - lo).toNat + (hi - mid).toNat by omega, digs_app]
  have l1 : (ns.take lo.toNat ++ digs n x (mid - lo).toNat).length = mid.toNat := by
    simp only [List.length_append, List.length_take, digs_len]; omega
  rw [List.take_append_of_le_length (by omega), List.take_of_length_le (by omega)]
  have l2 : (ns.take lo.toNat ++ digs n x (mid - lo).toNat ++ ns.drop mid.toNat).drop hi.toNat = ns.drop hi.toNat := by
    rw [List.drop_append, List.drop_eq_nil_of_le (by omega), List.nil_append, List.drop_drop]
    congr 1
    omega
  rw [l2]
  simp [List.append_assoc]
theorem bits_ediv_pow {x : Int} {k m : Nat} (h : Builtin.Int.intBits x ≤ m) : Builtin.Int.intBits (x / 2 ^ k) ≤ m := by
  rw [← fdiv_pow]; exact intBits_fdiv_le h
section
variable {prog : Program} {w : World} {A : Around} {E : Value → Shared → Prop} {s : Shared} {x : Int} {t u : Tok} {Q : Value → Shared → Prop}
theorem xor_rest {k : Nat} (hx : 0 ≤ x) (h : Q (.int (x % 2 ^ k) s.toks) { s with toks := s.toks + 1 }) : wpAny (model prog w) A (binaryOp .BitXor (.int x t) (.int (x / 2 ^ k * 2 ^ k) u)) Q E s :=
  xor_int (by rw [← fdiv_pow, xor_low hx]; exact h)
end
/-- what inner's arguments must hold -/
structure In2 (n x lo hi : Int) (len : Nat) (k : Nat) : Prop where
  lo0 : 0 ≤ lo
  lohi : lo < hi
  hilen : hi ≤ len
  size : hi - lo ≤ 2 ^ k
  x0 : 0 ≤ x
  x1 : x < 2 ^ (n.toNat * (hi - lo).toNat)
theorem In2.halves {n x lo hi : Int} {len k : Nat} (h : In2 n x lo hi len (k + 1)) (hn : 0 < n) (hne : lo + 1 ≠ hi) (hm : n * (len : Int) ≤ 1000000) :
    0 ≤ ((lo + hi) / 2 - lo) * n ∧ ((lo + hi) / 2 - lo) * n ≤ 1000000 ∧ (((lo + hi) / 2 - lo) * n).toNat = n.toNat * ((lo + hi) / 2 - lo).toNat ∧
    lo < (lo + hi) / 2 ∧ (lo + hi) / 2 < hi ∧
    In2 n (x % 2 ^ (((lo + hi) / 2 - lo) * n).toNat) lo ((lo + hi) / 2) len k ∧ In2 n (x / 2 ^ (((lo + hi) / 2 - lo) * n).toNat) ((lo + hi) / 2) hi len k := by
  obtain ⟨h0, h1, h2, h3, h4, h5⟩ := h
  have e2 : (2 : Int) ^ (k + 1) = 2 * 2 ^ k := by rw [Int.pow_succ, Int.mul_comm]
  rw [e2] at h3
  have a1 : lo < (lo + hi) / 2 := by omega
  have a2 : (lo + hi) / 2 < hi := by omega
  have b1 : 0 ≤ ((lo + hi) / 2 - lo) * n := Int.mul_nonneg (by omega) (by omega)
  have b2 : ((lo + hi) / 2 - lo) * n ≤ (len : Int) * n := Int.mul_le_mul_of_nonneg_right (by omega) (by omega)
  have b3 : (len : Int) * n = n * len := Int.mul_comm _ _
  have c1 : (((lo + hi) / 2 - lo) * n).toNat = n.toNat * ((lo + hi) / 2 - lo).toNat := by
    rw [Int.toNat_mul (by omega) (by omega), Nat.mul_comm]
  refine ⟨b1, by omega, c1, a1, a2, ⟨h0, a1, by omega, by omega, Int.emod_nonneg _ (Int.ne_of_gt (pow_pos' _)), ?_⟩, ⟨by omega, a2, h2, by omega, Int.ediv_nonneg h4 (Int.le_of_lt (pow_pos' _)), ?_⟩⟩
  · rw [c1]; exact Int.emod_lt_of_pos _ (pow_pos' _)
  · refine Int.ediv_lt_of_lt_mul (pow_pos' _) ?_
    rw [c1, ← Int.pow_add, ← Nat.mul_add, show (hi - (lo + hi) / 2).toNat + ((lo + hi) / 2 - lo).toNat = (hi - lo).toNat by omega]
    exact h5
end Mine
namespace Mine
theorem bits_emod_le {x : Int} {k m : Nat} (h0 : 0 ≤ x) (h : Builtin.Int.intBits x ≤ m) : Builtin.Int.intBits (x % 2 ^ k) ≤ m := by
  have hp := pow_pos' k
  have h1 := Int.emod_nonneg x (Int.ne_of_gt hp)
  have h2 := Int.mul_ediv_add_emod x (2 ^ k)
  have h3 : 0 ≤ 2 ^ k * (x / 2 ^ k) := Int.mul_nonneg (Int.le_of_lt hp) (Int.ediv_nonneg h0 (Int.le_of_lt hp))
  exact intBits_le_of_natAbs (by omega) h
end Mine
namespace Mine
theorem led_pull1 {g h : Heap} {L : Addr} {a x : Addr × Obj} {l : Led} (N : News g L h (a :: x :: l)) : News g L h (x :: a :: l) := fun p hp => N p (by
  simp only [List.mem_cons] at hp ⊢; rcases hp with h | h | h <;> simp only [h, true_or, or_true])
theorem led_pull2 {g h : Heap} {L : Addr} {a b x : Addr × Obj} {l : Led} (N : News g L h (a :: b :: x :: l)) : News g L h (x :: a :: b :: l) := fun p hp => N p (by
  simp only [List.mem_cons] at hp ⊢; rcases hp with h | h | h | h <;> simp only [h, true_or, or_true])
theorem led_of {g h : Heap} {L : Addr} {l k : Led} (N : News g L h l) (hs : ∀ p ∈ k, p ∈ l) : News g L h k := fun p hp => N p (hs p hp)
/-- what _int2digits tells -/
def digitsOf (n a : Int) : List Int := digs n.toNat a (((Builtin.Int.intBits a : Int) + n - 1) / n).toNat
/-- a table's places behind a call: old ones, or above all that stood -/
def Fresher (tb tb' news : Led) : Prop := ∀ p ∈ tb', (∃ q ∈ tb, q.1 = p.1) ∨ ∀ q ∈ tb ++ news, q.1 < p.1
theorem Fresher.refl {tb news : Led} : Fresher tb tb news := fun p hp => .inl ⟨p, hp, rfl⟩
theorem Fresher.cold {P c : Addr} {o o' oc : Obj} {L : Nat} {news : Led} (h1 : @LT.lt Nat _ P c) (h2 : ∀ p ∈ news, p.1 < L) (h3 : L ≤ c) : Fresher [(P, o)] [(P, o'), (c, oc)] news := fun p hp => by
  rcases List.mem_cons.mp hp with rfl | hp
  · exact .inl ⟨_, .head _, rfl⟩
  · rw [List.mem_singleton.mp hp]
    refine .inr fun q hq => ?_
    rcases List.mem_cons.mp hq with rfl | hq
    · exact h1
    · exact Nat.lt_of_lt_of_le (h2 q hq) h3
theorem Fresher.ne {tb tb' news : Led} {X : Addr} (h : Fresher tb tb' news) (h1 : ∀ q ∈ tb, q.1 ≠ X) (h2 : ∃ o, (X, o) ∈ news) : ∀ p ∈ tb', p.1 ≠ X := fun p hp e => by
  rcases h p hp with ⟨q, hq, e2⟩ | h3
  · exact h1 q hq (e2.trans e)
  · obtain ⟨o, ho⟩ := h2
    have h4 : X < p.1 := h3 (X, o) (List.mem_append_right _ ho)
    rw [e] at h4
    exact Nat.lt_irrefl _ h4
def DigPost (P : Addr) (pos : Pos) (qual : Str) (n a : Int) (tb₀ news : Led) (r : Value) (news' : Led) : Prop :=
  ∃ ad vs tb, r = .ref ad ∧ Tab P pos qual tb ∧ Fresher tb₀ tb news ∧ news' = (ad, listOf (List.toArray vs) 0) :: (tb ++ news) ∧ (∀ p ∈ tb ++ news, p.1 ≠ ad) ∧ (∀ p ∈ tb₀ ++ news, p.1 < ad) ∧ IntsAre vs (digitsOf n a)
theorem flat_rep (k : Nat) : (List.replicate k [(0 : Int)]).flatten = List.replicate k 0 := by
  induction k with
  | zero => rfl
  | succ k ih => simp only [List.replicate_succ, List.flatten_cons, ih, List.singleton_append]
theorem laid_all {n : Nat} {x : Int} {k : Nat} {ns : List Int} (h : ns.length = k) : laid n x ns 0 k = digs n x k := by
  unfold laid
  rw [List.drop_eq_nil_of_le (by omega)]
  simp
theorem bits_lt {a : Int} (ha : 0 ≤ a) : a < 2 ^ (Builtin.Int.intBits a) := by
  have h := intBits_le_iff.mp (Nat.le_refl (Builtin.Int.intBits a))
  have h2 : ((a.natAbs : Nat) : Int) < ((2 ^ Builtin.Int.intBits a : Nat) : Int) := Int.ofNat_lt.mpr h
  rw [kbt_cast] at h2
  omega
theorem pow_le {a b : Nat} (h : a ≤ b) : (2 : Int) ^ a ≤ 2 ^ b := by
  rw [← kbt_cast, ← kbt_cast]
  exact Int.ofNat_le.mpr (Nat.pow_le_pow_right (by decide) h)
theorem cnt_facts {a n : Int} (ha : 0 ≤ a) (hn : 0 < n) (hn2 : n ≤ 10000) (hb : Builtin.Int.intBits a ≤ 100000) (ha0 : a ≠ 0) {c : Nat} (hc : (c : Int) = ((Builtin.Int.intBits a : Int) + n - 1) / n) (hc1 : (c : Int) ≤ 1000) :
    n * (c : Int) ≤ 1000000 ∧ In2 n a 0 c c 10 := by
  have hbits : 0 < Builtin.Int.intBits a := by
    rcases Nat.eq_zero_or_pos (Builtin.Int.intBits a) with h | h
    · have := bits_lt ha; rw [h] at this; simp at this; omega
    · exact h
  have e1 := Int.mul_ediv_add_emod ((Builtin.Int.intBits a : Int) + n - 1) n
  have e2 := Int.emod_nonneg ((Builtin.Int.intBits a : Int) + n - 1) (Int.ne_of_gt hn)
  have e3 := Int.emod_lt_of_pos ((Builtin.Int.intBits a : Int) + n - 1) hn
  rw [← hc] at e1
  have h1 : (Builtin.Int.intBits a : Int) ≤ n * c := by omega
  have hc0 : 0 < (c : Int) := by
    rcases Int.lt_or_le 0 (c : Int) with h | h
    · exact h
    · have : n * (c : Int) ≤ n * 0 := Int.mul_le_mul_of_nonneg_left h (by omega)
      omega
  refine ⟨by omega, Int.le_refl _, hc0, Int.le_refl _, ?_, ha, ?_⟩
  · show (c : Int) - 0 ≤ 1024; omega
  · refine Int.lt_of_lt_of_le (bits_lt ha) (pow_le ?_)
    rw [show ((c : Int) - 0).toNat = c by omega]
    have : ((n.toNat * c : Nat) : Int) = n * c := by rw [Int.natCast_mul, Int.toNat_of_nonneg (by omega)]
    omega
end Mine
namespace Mine
section
variable {d f c l x y z t : Addr × Obj} {news : Led}
theorem sub_cold : ∀ p ∈ d :: ([t, c] ++ news), p ∈ d :: f :: c :: l :: x :: y :: z :: t :: news := by
  intro p hp
  simp only [List.cons_append, List.nil_append, List.mem_cons] at hp ⊢
  rcases hp with h | h | h | h <;> simp only [h, true_or, or_true]
theorem sub_warm : ∀ p ∈ d :: ([t, c] ++ news), p ∈ d :: f :: l :: x :: y :: z :: t :: c :: news := by
  intro p hp
  simp only [List.cons_append, List.nil_append, List.mem_cons] at hp ⊢
  rcases hp with h | h | h | h <;> simp only [h, true_or, or_true]
theorem sub_cold0 : ∀ p ∈ d :: ([t, c] ++ news), p ∈ f :: c :: d :: l :: x :: y :: z :: t :: news := by
  intro p hp
  simp only [List.cons_append, List.nil_append, List.mem_cons] at hp ⊢
  rcases hp with h | h | h | h <;> simp only [h, true_or, or_true]
theorem sub_warm0 : ∀ p ∈ d :: ([t, c] ++ news), p ∈ f :: d :: l :: x :: y :: z :: t :: c :: news := by
  intro p hp
  simp only [List.cons_append, List.nil_append, List.mem_cons] at hp ⊢
  rcases hp with h | h | h | h <;> simp only [h, true_or, or_true]
end
theorem cnt_zero {n : Int} (hn : 0 < n) : (((Builtin.Int.intBits 0 : Nat) : Int) + n - 1) / n = 0 := by
  rw [show Builtin.Int.intBits 0 = 0 from rfl]
  exact Int.ediv_eq_zero_of_lt (by omega) (by omega)
theorem digits_zero {n : Int} (hn : 0 < n) : digitsOf n 0 = [] := by
  unfold digitsOf; rw [cnt_zero hn]; rfl
end Mine
namespace Mine
theorem allLt' {l : Led} {L x : Nat} (h : ∀ p ∈ l, p.1 < L) (hx : L ≤ x) : ∀ p ∈ l, p.1 < x := fun p hp => Nat.lt_of_lt_of_le (h p hp) hx
end Mine

end
section
namespace Mine
/-- the number that digits tell, the lowest first -/
def val (n : Nat) : List Int → Int
  | [] => 0
  | d :: r => d + 2 ^ n * val n r
theorem val_app (n : Nat) : ∀ l k : List Int, val n (l ++ k) = val n l + 2 ^ (n * l.length) * val n k
  | [], k => by simp [val]
  | d :: l, k => by
    rw [List.cons_append, val, val, val_app n l k, List.length_cons, show n * (l.length + 1) = n + n * l.length by rw [Nat.mul_succ]; omega, Int.pow_add]
    grind
def Small (n : Nat) (l : List Int) : Prop := ∀ d ∈ l, 0 ≤ d ∧ d < 2 ^ n
theorem val_bounds (n : Nat) : ∀ l : List Int, Small n l → 0 ≤ val n l ∧ val n l < 2 ^ (n * l.length)
  | [], _ => by simp [val]
  | d :: l, h => by
    have h1 := h d (.head _)
    have h2 := val_bounds n l fun x hx => h x (.tail _ hx)
    have hp := pow_pos' n
    have hq := pow_pos' (n * l.length)
    rw [val, List.length_cons, show n * (l.length + 1) = n + n * l.length by rw [Nat.mul_succ]; omega, Int.pow_add]
    have h3 : 0 ≤ 2 ^ n * val n l := Int.mul_nonneg (Int.le_of_lt hp) h2.1
    have h4 : 2 ^ n * (val n l + 1) ≤ 2 ^ n * 2 ^ (n * l.length) := Int.mul_le_mul_of_nonneg_left (by omega) (Int.le_of_lt hp)
    rw [Int.mul_add] at h4
    omega
def sl (ns : List Int) (lo hi : Int) : List Int := (ns.drop lo.toNat).take (hi - lo).toNat
theorem sl_len {ns : List Int} {lo hi : Int} (h0 : 0 ≤ lo) (h1 : lo < hi) (h2 : hi ≤ ns.length) : (sl ns lo hi).length = (hi - lo).toNat := by
  simp only [sl, List.length_take, List.length_drop]; omega
theorem sl_one {ns : List Int} {lo hi : Int} (h0 : 0 ≤ lo) (h1 : lo + 1 = hi) (h2 : hi ≤ ns.length) : sl ns lo hi = [ns.getD lo.toNat 0] := by
  unfold sl
  have h3 : lo.toNat < ns.length := by omega
  rw [show (hi - lo).toNat = 1 by omega, List.drop_eq_getElem_cons h3, List.take_succ_cons, List.take_zero]
  simp [List.getD, h3]
theorem sl_two {ns : List Int} {lo mid hi : Int} (h0 : 0 ≤ lo) (h1 : lo < mid) (h2 : mid < hi) : sl ns lo hi = sl ns lo mid ++ sl ns mid hi := by
  unfold sl
  rw [show (hi - lo).toNat = (mid - lo).toNat + (hi - mid).toNat by omega, List.take_add, List.drop_drop]
  congr 3
  omega
theorem sl_small {n : Nat} {ns : List Int} {lo hi : Int} (h : Small n ns) : Small n (sl ns lo hi) := fun d hd => h d (List.mem_of_mem_drop (List.mem_of_mem_take hd))
theorem sl_all {ns : List Int} : sl ns 0 ns.length = ns := by
  unfold sl; simp
theorem val_one {n : Nat} {d : Int} : val n [d] = d := by simp [val]
theorem val_two {n : Nat} {ns : List Int} {lo mid hi : Int} (h0 : 0 ≤ lo) (h1 : lo < mid) (h2 : mid < hi) (h3 : hi ≤ ns.length) {sh : Nat} (hs : sh = n * (mid - lo).toNat) :
    val n (sl ns mid hi) * 2 ^ sh + val n (sl ns lo mid) = val n (sl ns lo hi) := by
  rw [sl_two h0 h1 h2, val_app, sl_len h0 h1 (by omega), hs, Int.mul_comm, Int.add_comm]
structure In1 (n lo hi : Int) (len : Nat) (k : Nat) : Prop where
  lo0 : 0 ≤ lo
  lohi : lo < hi
  hilen : hi ≤ len
  size : hi - lo ≤ 2 ^ k
theorem In1.halves {n lo hi : Int} {len k : Nat} (h : In1 n lo hi len (k + 1)) (hn : 0 < n) (hne : lo + 1 ≠ hi) (hm : n * (len : Int) ≤ 1000000) :
    0 ≤ ((lo + hi) / 2 - lo) * n ∧ ((lo + hi) / 2 - lo) * n ≤ 1000000 ∧ (((lo + hi) / 2 - lo) * n).toNat = n.toNat * ((lo + hi) / 2 - lo).toNat ∧
    lo < (lo + hi) / 2 ∧ (lo + hi) / 2 < hi ∧ In1 n lo ((lo + hi) / 2) len k ∧ In1 n ((lo + hi) / 2) hi len k := by
  obtain ⟨h0, h1, h2, h3⟩ := h
  have e2 : (2 : Int) ^ (k + 1) = 2 * 2 ^ k := by rw [Int.pow_succ, Int.mul_comm]
  rw [e2] at h3
  have a1 : lo < (lo + hi) / 2 := by omega
  have a2 : (lo + hi) / 2 < hi := by omega
  have b1 : 0 ≤ ((lo + hi) / 2 - lo) * n := Int.mul_nonneg (by omega) (by omega)
  have b2 : ((lo + hi) / 2 - lo) * n ≤ (len : Int) * n := Int.mul_le_mul_of_nonneg_right (by omega) (by omega)
  have b3 : (len : Int) * n = n * len := Int.mul_comm _ _
  have c1 : (((lo + hi) / 2 - lo) * n).toNat = n.toNat * ((lo + hi) / 2 - lo).toNat := by
    rw [Int.toNat_mul (by omega) (by omega), Nat.mul_comm]
  exact ⟨b1, by omega, c1, a1, a2, ⟨h0, a1, by omega, by omega⟩, ⟨by omega, a2, h2, by omega⟩⟩
theorem val_bits {n : Int} {ns : List Int} {lo hi : Int} (hn : 0 < n) (hs : Small n.toNat ns) (h0 : 0 ≤ lo) (h1 : lo < hi) (h2 : hi ≤ ns.length) (hm : n * (ns.length : Int) ≤ 1000000) : Builtin.Int.intBits (val n.toNat (sl ns lo hi)) ≤ 1000000 := by
  have h := val_bounds n.toNat _ (sl_small (lo := lo) (hi := hi) hs)
  rw [sl_len h0 h1 h2] at h
  refine bits_of_lt' h.1 h.2 ?_
  have e : ((n.toNat * (hi - lo).toNat : Nat) : Int) = n * (hi - lo) := by rw [Int.natCast_mul, Int.toNat_of_nonneg (by omega), Int.toNat_of_nonneg (by omega)]
  have : n * (hi - lo) ≤ n * ns.length := Int.mul_le_mul_of_nonneg_left (by omega) (by omega)
  omega
end Mine
namespace Mine
section
variable {prog : Program} {w : World} {A : Around} {E : Value → Shared → Prop} {s : Shared} {h₀ : Heap} {L D : Addr} {news : Led} {vs : List Value} {ns : List Int} {e : Nat}
theorem len_N {Q : Value → Shared → Prop} (N : News h₀ L s.heap news) (hm : (D, listOf vs.toArray e) ∈ news) (hi : IntsAre vs ns) (hf : (ns.length : Int) ≤ 1000000) (h : Q (.int (ns.length : Nat) (s.toks + 1)) { s with toks := s.toks + 1 + 1 }) :
    wpAny (model prog w) A (call (.builtin "len") [.ref D]) Q E s :=
  KM.len_K N hm (by rw [List.size_toArray, hi.length]) (by omega) h
end
end Mine
namespace Mine
section
variable {prog : Program} {w : World} {A : Around} {E : Value → Shared → Prop} {s : Shared} {h₀ : Heap} {L D : Addr} {news : Led} {vs : List Value} {ns : List Int} {e : Nat}
theorem truthy_N {Q : Bool → Shared → Prop} (N : News h₀ L s.heap news) (hm : (D, listOf vs.toArray e) ∈ news) (hi : IntsAre vs ns) (hf : (ns.length : Int) ≤ 1000000) (h : Q (decide (0 < ns.length)) { s with toks := s.toks + 1 + 1 }) :
    wpAny (model prog w) A (truthy (.ref D)) Q E s := by
  refine wpAny_truthy_list (News.isList N hm) (by rw [List.size_toArray, hi.length]; omega) ?_
  have e1 : (!vs.toArray.isEmpty) = decide (0 < ns.length) := by
    rw [← hi.length]
    cases vs <;> simp
  rw [e1]
  exact h
end
end Mine
namespace Mine
section
variable {f c x y z t : Addr × Obj} {news : Led}
theorem sub_coldD : ∀ p ∈ ([t, c] ++ news), p ∈ f :: c :: x :: y :: z :: t :: news := by
  intro p hp
  simp only [List.cons_append, List.nil_append, List.mem_cons] at hp ⊢
  rcases hp with h | h | h <;> simp only [h, true_or, or_true]
theorem sub_warmD : ∀ p ∈ ([t, c] ++ news), p ∈ f :: x :: y :: z :: t :: c :: news := by
  intro p hp
  simp only [List.cons_append, List.nil_append, List.mem_cons] at hp ⊢
  rcases hp with h | h | h <;> simp only [h, true_or, or_true]
end
end Mine

end
section
namespace Mine
def TurnEnd {σ : Type} (h₀ : Heap) (L I : Addr) (it : Obj) (s : Shared) (Led : σ → Led) (ps : σ → List (Str × Value)) (stored : List Str) (m₀ : Str → Option Value) (P : Nat → σ → Prop) (i : Nat) (s₂ : Shared) : Prop :=
  ∃ c' h' tk m' news', s₂ = { s with heap := h', toks := tk } ∧ Fr h₀ L h' m' ∧ News h₀ L h' news' ∧ (∀ p ∈ Led c', p ∈ news') ∧ (I, it) ∈ news' ∧ (∀ p ∈ Led c', p.1 ≠ I) ∧ (∀ p ∈ ps c', m' p.1 = some p.2) ∧ (∀ z, (∀ p ∈ ps c', z ≠ p.1) → stored.contains z = false → m' z = m₀ z) ∧ P (i + 1) c'
def TurnPost {σ : Type} (h₀ : Heap) (L I : Addr) (it : Obj) (s : Shared) (Led : σ → Led) (ps : σ → List (Str × Value)) (stored : List Str) (m₀ : Str → Option Value) (P : Nat → σ → Prop) (i : Nat) (Q : Flow → Shared → Prop) (f : Flow) (s₂ : Shared) : Prop :=
  match f with
  | .ret v => Q (.ret v) s₂
  | .brk => Q .next s₂
  | _ => TurnEnd h₀ L I it s Led ps stored m₀ P i s₂
theorem turn_end {σ : Type} {h₀ : Heap} {L I : Addr} {it : Obj} {s : Shared} {Led : σ → Mine.Led} {ps : σ → List (Str × Value)} {stored : List Str} {m₀ : Str → Option Value} {P : Nat → σ → Prop} {i : Nat} (c' : σ)
    {h' : Heap} {tk : Nat} {m' : Str → Option Value} {news' : Mine.Led} (F : Fr h₀ L h' m') (N : News h₀ L h' news') (hs : ∀ p ∈ Led c', p ∈ news') (hI : (I, it) ∈ news') (hne : ∀ p ∈ Led c', p.1 ≠ I) (hps : ∀ p ∈ ps c', m' p.1 = some p.2)
    (hr : ∀ z, (∀ p ∈ ps c', z ≠ p.1) → stored.contains z = false → m' z = m₀ z) (hp : P (i + 1) c') : TurnEnd h₀ L I it s Led ps stored m₀ P i { s with heap := h', toks := tk } :=
  ⟨c', h', tk, m', news', rfl, F, N, hs, hI, hne, hps, hr, hp⟩
section
variable {prog : Program} {w : World} {A : Around} {E : Value → Shared → Prop} {s : Shared} {env : Env} {h₀ : Heap} {x : Str} {body : List Stmt} {Q : Flow → Shared → Prop}
theorem loop_walk {σ : Type} {I l : Addr} {lo : Obj} {n : Nat} {Pv : Nat → Value → Prop} {St : Nat → Heap → Prop} {m₀ : Str → Option Value} (W : Walks prog w A I [I, l] [I] n Pv St) (hst : St 0 s.heap)
    (Led : σ → Mine.Led) (ps : σ → List (Str × Value)) (stored : List Str) (P : Nat → σ → Prop) (c₀ : σ)
    (hx : stored.contains x = true)
    (hl : (∀ c, (l, lo) ∈ Led c) ∨ h₀.get? l = some lo) (hI₀ : h₀.get? I = none) (hIL : I ≠ env.locals)
    (F : Fr h₀ env.locals s.heap m₀) (N : News h₀ env.locals s.heap (Led c₀)) (hne : ∀ p ∈ Led c₀, p.1 ≠ I) (hk : ∀ p ∈ ps c₀, m₀ p.1 = some p.2) (hp : P 0 c₀) (hlive : ∀ i h, St i h → ∃ it, h.get? I = some it)
    (turn : ∀ (i : Nat) (v : Value) (c : σ) (u : Str → Option Value) (h : Heap) (tk : Nat) (it : Obj), i < n → Pv i v → P i c → (∀ p ∈ Led c, p.1 ≠ I) → Fr h₀ env.locals h (fun y => if y = x then some v else kstB (fun z => if stored.contains z then u z else m₀ z) (ps c) y) → News h₀ env.locals h ((I, it) :: Led c) →
      wpAny (model prog w) A (execs body env) (TurnPost h₀ env.locals I it { s with heap := h, toks := tk } Led ps stored m₀ P i Q) E { s with heap := h, toks := tk })
    (done : ∀ (c : σ) (u : Str → Option Value) (h : Heap) (tk : Nat), P n c → Fr h₀ env.locals h (kstB (fun z => if stored.contains z then u z else m₀ z) (ps c)) → News h₀ env.locals h (Led c) → Q .next { s with heap := h, toks := tk }) :
    LoopAtV prog w A h₀ env x body Q E (.ref I) s := by
  have hLl : env.locals ≠ l := by
    rcases hl with hl | hl
    · exact fun q => (N _ (hl c₀)).2.1 q.symm
    · intro q
      have h1 := Heap.lt_size hl
      rw [← q] at h1
      exact absurd (Nat.lt_of_lt_of_le h1 F.above) (Nat.lt_irrefl _)
  refine ⟨I, [I, l], [I], n, Pv, St, m₀, Led c₀, fun i m₁ news₁ => ∃ c, news₁ = Led c ∧ (∀ p ∈ ps c, m₁ p.1 = some p.2) ∧ (∀ z, (∀ p ∈ ps c, z ≠ p.1) → stored.contains z = false → m₁ z = m₀ z) ∧ P i c, rfl, W, ?_, ?_, ?_, hst, F, N, ⟨c₀, rfl, hk, fun _ _ _ => rfl, hp⟩, ?_, ?_⟩
  · intro hm
    rcases List.mem_cons.mp hm with e | hm
    · exact hIL e.symm
    · exact hLl (List.mem_singleton.mp hm)
  · intro b hb
    rw [List.mem_singleton.mp hb]; exact hI₀
  · intro p hp hb
    exact hne p hp (List.mem_singleton.mp hb)
  · rintro i v m₁ news₁ s₁ own ⟨hh, tkh, rfl⟩ hin hP ⟨c, rfl, hps, hrest, hPc⟩ hoff hown hget hall hst₁ F₁ N₁
    obtain ⟨it, hit⟩ := hlive _ _ hst₁
    have hmemI := hall I (List.mem_cons_self) hI₀ it hit
    have hneI : ∀ p ∈ Led c, p.1 ≠ I := fun p hp e => hoff p hp (by rw [e]; exact List.mem_singleton.mpr rfl)
    have Nt : News h₀ env.locals hh ((I, it) :: Led c) := fun p hp => by
      rcases List.mem_cons.mp hp with rfl | hp
      · exact N₁ _ (List.mem_append_left _ hmemI)
      · exact N₁ p (List.mem_append_right _ hp)
    have em : (fun y => if y = x then some v else m₁ y) = (fun y => if y = x then some v else kstB (fun z => if stored.contains z then m₁ z else m₀ z) (ps c) y) := by
      funext y
      by_cases h1 : y = x
      · simp only [h1, if_true]
      · simp only [if_neg h1]
        refine (kstB_eq hps fun hn => ?_).symm
        show (if stored.contains y = true then m₁ y else m₀ y) = m₁ y
        cases h3 : stored.contains y with
        | true => simp
        | false => simp only [Bool.false_eq_true, if_false]; exact (hrest y hn h3).symm
    rw [em] at F₁
    refine wpAny_mono (turn i v c m₁ hh tkh it hin hP hPc hneI F₁ Nt) (fun f s₃ h₃ => ?_) fun _ _ e => e
    have fin : TurnEnd h₀ env.locals I it { s with heap := hh, toks := tkh } Led ps stored m₀ P i s₃ → LoopStepU h₀ env.locals [I] own (fun m₁ news₁ => ∃ c, news₁ = Led c ∧ (∀ p ∈ ps c, m₁ p.1 = some p.2) ∧ (∀ z, (∀ p ∈ ps c, z ≠ p.1) → stored.contains z = false → m₁ z = m₀ z) ∧ P (i + 1) c) { s with heap := hh, toks := tkh } .next s₃ := by
      rintro ⟨c', h', tk', m', news', rfl, F', N', hs', hI', hne', hps', hr', hp'⟩
      refine ⟨rfl, h', tk', m', Led c', rfl, F', fun p hp => ?_, fun p hp hb => hne' p hp (List.mem_singleton.mp hb), c', rfl, hps', hr', hp'⟩
      rcases List.mem_append.mp hp with hp | hp
      · have h1 := hget p hp
        rcases List.mem_cons.mp (hown p hp) with e | e
        · obtain ⟨a, o⟩ := p
          simp only at e h1
          subst e
          rw [hit] at h1
          cases h1
          exact N' _ hI'
        · have e' := List.mem_singleton.mp e
          obtain ⟨a, o⟩ := p
          simp only at e' h1
          subst e'
          rcases hl with hl | hl
          · have h2 := (Nt _ (List.mem_cons_of_mem _ (hl c))).1
            simp only at h2
            rw [h2] at h1
            cases h1
            exact N' _ (hs' _ (hl c'))
          · have h3 := (N₁ _ (List.mem_append_left _ hp)).2.2
            simp only at h3
            rw [hl] at h3; cases h3
      · exact N' p (hs' p hp)
    cases f with
    | ret v => exact .ret h₃
    | brk => exact .brk h₃
    | next => exact .next (fin h₃)
    | cont => exact .cont (fin h₃)
  · rintro h' tk' m' news' F' N' hoff' ⟨c, rfl, hps, hrest, hPc⟩
    have em : m' = kstB (fun z => if stored.contains z then m' z else m₀ z) (ps c) := by
      funext y
      refine (kstB_eq hps fun hn => ?_).symm
      show (if stored.contains y = true then m' y else m₀ y) = m' y
      cases h3 : stored.contains y with
      | true => simp
      | false => simp only [Bool.false_eq_true, if_false]; exact (hrest y hn h3).symm
    rw [em] at F'
    exact done c m' h' tk' hPc F' N'
/-- a for over a list that the loop leaves as it is -/
theorem iter_list {σ : Type} {l : Addr} {lo : Obj} {vs : List Value} {m₀ : Str → Option Value} (Led : σ → Mine.Led) (ps : σ → List (Str × Value)) (stored : List Str) (P : Nat → σ → Prop) (c₀ : σ)
    (hh : A.handled = none) (hx : stored.contains x = true) (hl : (∀ c, (l, lo) ∈ Led c) ∨ h₀.get? l = some lo) (hlc : lo.cls = .type "list") (hld : ∃ e, lo.data = .seq vs.toArray e)
    (F : Fr h₀ env.locals s.heap m₀) (N : News h₀ env.locals s.heap (Led c₀)) (hk : ∀ p ∈ ps c₀, m₀ p.1 = some p.2) (hp : P 0 c₀)
    (turn : ∀ (i : Nat) (v : Value) (c : σ) (u : Str → Option Value) (h : Heap) (tk : Nat) (I : Addr) (it : Obj), i < vs.length → vs[i]? = some v → P i c → (∀ p ∈ Led c, p.1 ≠ I) → Fr h₀ env.locals h (fun y => if y = x then some v else kstB (fun z => if stored.contains z then u z else m₀ z) (ps c) y) → News h₀ env.locals h ((I, it) :: Led c) →
      wpAny (model prog w) A (execs body env) (TurnPost h₀ env.locals I it { s with heap := h, toks := tk } Led ps stored m₀ P i Q) E { s with heap := h, toks := tk })
    (done : ∀ (c : σ) (u : Str → Option Value) (h : Heap) (tk : Nat), P vs.length c → Fr h₀ env.locals h (kstB (fun z => if stored.contains z then u z else m₀ z) (ps c)) → News h₀ env.locals h (Led c) → Q .next { s with heap := h, toks := tk }) :
    wpAny (model prog w) A (pyIter (.ref l)) (fun it s₂ => LoopAtV prog w A h₀ env x body Q E it s₂) E s := by
  obtain ⟨e, hld⟩ := hld
  have hget : s.heap.get? l = some lo := by
    rcases hl with hl | hl
    · exact (N _ (hl c₀)).1
    · exact F.keep _ _ hl
  have hls : s.heap.IsList l vs.toArray := ⟨lo, hget, hlc, e, hld⟩
  have hne : l ≠ s.heap.objs.size := Nat.ne_of_lt (Heap.lt_size hget)
  refine wpAny_pyIter_list hls ?_
  have W := Walks.list (prog := prog) (w := w) hh s.heap.objs.size l hne vs.toArray
  have hlen : vs.toArray.size = vs.length := by simp
  rw [hlen] at W
  have hLs : env.locals < s.heap.objs.size := F.ns.lt
  refine loop_walk (lo := lo) W ⟨⟨_, Heap.get?_push_size _ rfl, rfl, rfl⟩, hls.at fun o e => Heap.get?_push_of_some _ e⟩ Led ps stored P c₀ hx hl (next_is_new F) (Nat.ne_of_gt hLs) (F.push _) (fun p hp => ⟨Heap.get?_push_of_some _ (N p hp).1, (N p hp).2⟩)
    (fun p hp => Nat.ne_of_lt (Heap.lt_size (N p hp).1)) hk hp (fun i h hs => ?_) (fun i v c u h tk it hi hv => turn i v c u h tk _ it hi (by simpa using hv)) done
  obtain ⟨o, ho, _⟩ := hs.1
  exact ⟨o, ho⟩
/-- a for over reversed(..) of such a list; the iterator object stands in the ledger -/
theorem iter_rev {σ : Type} {l I : Addr} {lo : Obj} {vs : List Value} {m₀ : Str → Option Value} (Led : σ → Mine.Led) (ps : σ → List (Str × Value)) (stored : List Str) (P : Nat → σ → Prop) (c₀ : σ)
    (hh : A.handled = none) (hx : stored.contains x = true) (hl : ∀ c, (l, lo) ∈ Led c) (hlc : lo.cls = .type "list") (hld : ∃ e, lo.data = .seq vs.toArray e)
    (F : Fr h₀ env.locals s.heap m₀) (N : News h₀ env.locals s.heap ((I, revObj l ((vs.length : Int) - 1)) :: Led c₀)) (hne : ∀ p ∈ Led c₀, p.1 ≠ I) (hk : ∀ p ∈ ps c₀, m₀ p.1 = some p.2) (hp : P 0 c₀)
    (turn : ∀ (i : Nat) (v : Value) (c : σ) (u : Str → Option Value) (h : Heap) (tk : Nat) (it : Obj), i < vs.length → vs.reverse[i]? = some v → P i c → (∀ p ∈ Led c, p.1 ≠ I) → Fr h₀ env.locals h (fun y => if y = x then some v else kstB (fun z => if stored.contains z then u z else m₀ z) (ps c) y) → News h₀ env.locals h ((I, it) :: Led c) →
      wpAny (model prog w) A (execs body env) (TurnPost h₀ env.locals I it { s with heap := h, toks := tk } Led ps stored m₀ P i Q) E { s with heap := h, toks := tk })
    (done : ∀ (c : σ) (u : Str → Option Value) (h : Heap) (tk : Nat), P vs.length c → Fr h₀ env.locals h (kstB (fun z => if stored.contains z then u z else m₀ z) (ps c)) → News h₀ env.locals h (Led c) → Q .next { s with heap := h, toks := tk }) :
    wpAny (model prog w) A (pyIter (.ref I)) (fun it s₂ => LoopAtV prog w A h₀ env x body Q E it s₂) E s := by
  obtain ⟨e, hld⟩ := hld
  have hIx := N _ (List.mem_cons_self ..)
  have hget : s.heap.get? l = some lo := (N _ (List.mem_cons_of_mem _ (hl c₀))).1
  have hls : s.heap.IsList l vs.toArray := ⟨lo, hget, hlc, e, hld⟩
  have hnl : l ≠ I := hne _ (hl c₀)
  have hit : s.heap.IsRevIter I l ((vs.length : Int) - 1) := ⟨_, hIx.1, rfl, rfl⟩
  refine wpAny_pyIter_revIter hit ?_
  have W := Walks.listRev (prog := prog) (w := w) hh I l hnl vs.toArray
  have hlen : vs.toArray.size = vs.length := by simp
  rw [hlen] at W
  have e1 : (vs.length : Int) - 1 - ((0 : Nat) : Int) = (vs.length : Int) - 1 := by omega
  have hit0 : s.heap.IsRevIter I l ((vs.length : Int) - 1 - ((0 : Nat) : Int)) := by rw [e1]; exact hit
  refine loop_walk (lo := lo) W ⟨Nat.zero_le _, hit0, hls⟩ Led ps stored P c₀ hx (.inl hl) hIx.2.2 hIx.2.1 F (fun p hp => N p (List.mem_cons_of_mem _ hp)) hne hk hp (fun i h hs => ?_) (fun i v c u h tk it hi hv => turn i v c u h tk it hi ?_) done
  · obtain ⟨o, ho, _⟩ := hs.2.1
    exact ⟨o, ho⟩
  · rw [List.getElem?_reverse hi]
    simpa using hv
end
end Mine
namespace Mine
theorem bits_pos {b : Int} (hb : 0 < b) : 0 < Builtin.Int.intBits b := by
  rcases Nat.eq_zero_or_pos (Builtin.Int.intBits b) with h | h
  · have := bits_lt (a := b) (by omega); rw [h] at this; simp at this; omega
  · exact h
end Mine
namespace Mine
structure DivInv (n : Nat) (b : Int) (ds : List Int) (i : Nat) (qs : List Int) (r : Int) : Prop where
  len : qs.length = i
  small : Small n qs
  r0 : 0 ≤ r
  r1 : r < b
  eq : val n qs.reverse * b + r = val n (ds.drop (ds.length - i))
theorem DivInv.start {n : Nat} {b : Int} {ds : List Int} (hb : 0 < b) : DivInv n b ds 0 [] 0 :=
  ⟨rfl, (fun _ h => nomatch h), Int.le_refl _, hb, by simp [val]⟩
theorem DivInv.step {n : Nat} {b : Int} {ds : List Int} {i : Nat} {qs : List Int} {r d q r' : Int} (h : DivInv n b ds i qs r) (hi : i < ds.length) (hd : ds.reverse[i]? = some d) (hd0 : 0 ≤ d) (hd1 : d < 2 ^ n)
    (e1 : q * b + r' = r * 2 ^ n + d) (e2 : 0 ≤ r') (e3 : r' < b) : DivInv n b ds (i + 1) (qs ++ [q]) r' := by
  have hP := pow_pos' n
  have hb : 0 < b := Int.lt_of_le_of_lt h.r0 h.r1
  have hrP : 0 ≤ r * 2 ^ n := Int.mul_nonneg h.r0 (Int.le_of_lt hP)
  have hq0 : 0 ≤ q := pos_factor hb (by rw [Int.add_mul]; omega)
  have hq1 : q < 2 ^ n := by
    have h1 : (r + 1) * 2 ^ n ≤ b * 2 ^ n := Int.mul_le_mul_of_nonneg_right (by have := h.r1; omega) (Int.le_of_lt hP)
    rw [Int.add_mul] at h1
    have h2 : q * b < 2 ^ n * b := by rw [Int.mul_comm (2 ^ n) b]; omega
    exact Int.lt_of_mul_lt_mul_right h2 (Int.le_of_lt hb)
  refine ⟨by rw [List.length_append, h.len]; rfl, fun x hx => ?_, e2, e3, ?_⟩
  · rcases List.mem_append.mp hx with hx | hx
    · exact h.small x hx
    · rw [List.mem_singleton.mp hx]; exact ⟨hq0, hq1⟩
  · rw [List.getElem?_reverse hi] at hd
    have hj : ds.length - 1 - i < ds.length := by omega
    rw [List.getElem?_eq_getElem hj] at hd
    have hdrop : ds.drop (ds.length - (i + 1)) = d :: ds.drop (ds.length - i) := by
      have e4 : ds.length - (i + 1) = ds.length - 1 - i := by omega
      rw [e4, List.drop_eq_getElem_cons hj, Option.some.inj hd]
      congr 2
      omega
    rw [hdrop, List.reverse_append, List.reverse_singleton, List.singleton_append, val, val, ← h.eq]
    have e5 : q * b = r * 2 ^ n + d - r' := by omega
    rw [Int.add_mul, e5]
    grind
theorem val_digs {n : Nat} : ∀ (k : Nat) (x : Int), 0 ≤ x → x < 2 ^ (n * k) → val n (digs n x k) = x
  | 0, x, h0, h1 => by simp at h1; rw [digs, val]; omega
  | k + 1, x, h0, h1 => by
    have hP := pow_pos' n
    rw [digs, val, val_digs k (x / 2 ^ n) (Int.ediv_nonneg h0 (Int.le_of_lt hP)) (Int.ediv_lt_of_lt_mul hP (by rw [← Int.pow_add, show n * k + n = n * (k + 1) by rw [Nat.mul_succ]]; exact h1)), Int.add_comm]
    exact Int.mul_ediv_add_emod x (2 ^ n)
theorem digs_small {n : Nat} : ∀ (k : Nat) (x : Int), Small n (digs n x k)
  | 0, _ => fun _ h => nomatch h
  | k + 1, x => fun d hd => by
    rw [digs] at hd
    rcases List.mem_cons.mp hd with rfl | hd
    · exact ⟨Int.emod_nonneg _ (Int.ne_of_gt (pow_pos' n)), Int.emod_lt_of_pos _ (pow_pos' n)⟩
    · exact digs_small k _ d hd
theorem val_digitsOf {n a : Int} (ha : 0 ≤ a) (hn : 0 < n) : val n.toNat (digitsOf n a) = a := by
  unfold digitsOf
  refine val_digs _ _ ha (Int.lt_of_lt_of_le (bits_lt ha) (pow_le ?_))
  have e1 := Int.mul_ediv_add_emod ((Builtin.Int.intBits a : Int) + n - 1) n
  have e3 := Int.emod_lt_of_pos ((Builtin.Int.intBits a : Int) + n - 1) hn
  have h0 : 0 ≤ ((Builtin.Int.intBits a : Int) + n - 1) / n := Int.ediv_nonneg (by omega) (by omega)
  have : ((n.toNat * (((Builtin.Int.intBits a : Int) + n - 1) / n).toNat : Nat) : Int) = n * (((Builtin.Int.intBits a : Int) + n - 1) / n) := by rw [Int.natCast_mul, Int.toNat_of_nonneg (by omega), Int.toNat_of_nonneg h0]
  omega
theorem DivInv.all {n : Nat} {b : Int} {ds : List Int} {qs : List Int} {r : Int} (h : DivInv n b ds ds.length qs r) : val n qs.reverse * b + r = val n ds := by
  have := h.eq
  rwa [Nat.sub_self, List.drop_zero] at this
theorem DivInv.pre {b : Int} {ds : List Int} {i : Nat} {qs : List Int} {r d : Int} {nb : Nat} (hnb : nb = Builtin.Int.intBits b) (hb0 : 0 < b) (hbb : nb ≤ 8500) (h : DivInv nb b ds i qs r) (hd0 : 0 ≤ d) (hd1 : d < 2 ^ nb) : Pre2 (r * 2 ^ nb + d) b nb := by
  have hpos := bits_pos hb0
  have hlt := bits_lt (a := b) (by omega)
  have hP := pow_pos' nb
  have hrP : 0 ≤ r * 2 ^ nb := Int.mul_nonneg h.r0 (Int.le_of_lt hP)
  refine ⟨by omega, by omega, ?_, by rw [hnb]; exact hlt, by omega, ?_⟩
  · rw [show ((nb : Int) - 1).toNat = nb - 1 by omega]
    rcases Int.lt_or_le b (2 ^ (nb - 1)) with h1 | h1
    · have := bits_of_lt (by omega) h1
      omega
    · exact h1
  · have h1 : (r + 1) * 2 ^ nb ≤ b * 2 ^ nb := Int.mul_le_mul_of_nonneg_right (by have := h.r1; omega) (Int.le_of_lt hP)
    rw [Int.add_mul] at h1
    rw [show ((nb : Int)).toNat = nb from Int.toNat_natCast _, Int.mul_comm (2 ^ nb) b]
    omega
theorem ints_rev {vs : List Value} {ns : List Int} (h : IntsAre vs ns) : IntsAre vs.reverse ns.reverse := by
  induction h with
  | nil => exact .nil
  | cons i t h ih =>
    rw [List.reverse_cons, List.reverse_cons]
    exact IntsAre.append ih (.cons i t .nil)
theorem digitsOf_len {n a : Int} (_hn : 0 < n) : ((digitsOf n a).length : Int) = ((((Builtin.Int.intBits a : Int) + n - 1) / n).toNat : Int) := by
  unfold digitsOf; rw [digs_len]
end Mine
namespace Mine
theorem digitsOf_small {nb : Nat} {a : Int} : Small nb (digitsOf (nb : Int) a) := by
  unfold digitsOf; rw [Int.toNat_natCast]; exact digs_small _ _
theorem digit_at {vs : List Value} {ns : List Int} (h : IntsAre vs ns) {i : Nat} {v : Value} (hi : i < vs.length) (hv : vs.reverse[i]? = some v) : ∃ d t, v = .int d t ∧ ns.reverse[i]? = some d ∧ d ∈ ns ∧ i < ns.length := by
  have hi' : i < ns.length := by rw [← h.length]; exact hi
  have hd : ns.reverse[i]? = some (ns.reverse[i]'(by rw [List.length_reverse]; exact hi')) := List.getElem?_eq_getElem _
  obtain ⟨t, hx⟩ := (ints_rev h).get i _ hd
  rw [hx] at hv
  exact ⟨_, t, (Option.some.inj hv).symm, hd, List.mem_reverse.mp (List.mem_of_getElem? hd), hi'⟩
section
variable {x y z : Addr × Obj} {l : Led}
theorem sub2 : ∀ p ∈ z :: l, p ∈ x :: y :: z :: l := fun _ h => .tail _ (.tail _ h)
theorem sub1 : ∀ p ∈ z :: l, p ∈ y :: z :: l := fun _ h => .tail _ h
end
end Mine
namespace Mine
section
variable {prog : Program} {w : World} {A : Around} {E : Value → Shared → Prop} {s : Shared} {h₀ : Heap} {L D : Addr} {m : Str → Option Value} {news news' : Led} {vs : List Value} {n : Nat} {x : Value} {Q : Value → Shared → Prop}
theorem append_L (F : Fr h₀ L s.heap m) (N : News h₀ L s.heap news) (U : Upd D (listOf vs.toArray n) (listOf (vs ++ [x]).toArray (n + 1)) news news') (hz : vs.length ≤ 1000000)
    (h : ∀ h', Fr h₀ L h' m → News h₀ L h' news' → Q .none { s with heap := h' }) : wpAny (model prog w) A (call (.builtin "list.append") [.ref D, x]) Q E s := by
  refine append_K F N (by rw [List.push_toArray]; exact U) h ?_
  rw [List.size_toArray]
  exact Nat.le_trans hz (by decide)
theorem reverse_L (F : Fr h₀ L s.heap m) (N : News h₀ L s.heap news) (U : Upd D (listOf vs.toArray n) (listOf vs.reverse.toArray n) news news') (hz : vs.length ≤ 1000000)
    (h : ∀ h', Fr h₀ L h' m → News h₀ L h' news' → Q .none { s with heap := h' }) : wpAny (model prog w) A (call (.builtin "list.reverse") [.ref D]) Q E s :=
  kl_reverse F N rfl (by simpa using U) (by simpa using Nat.le_trans hz (by decide)) h
end
end Mine
namespace Mine
theorem digitsOf_le {nb : Nat} {a : Int} (hn : 0 < nb) (hc : (Builtin.Int.intBits a : Int) ≤ 1000 * (nb : Int)) : (digitsOf (nb : Int) a).length ≤ 1000 := by
  unfold digitsOf
  rw [digs_len]
  have := (cnt_bounds (a := a) (n := nb) (by omega) hc).2
  rw [Int.fdiv_eq_ediv_of_nonneg _ (by omega)] at this
  omega
end Mine
namespace Mine
theorem digitsOf_mul {nb : Nat} {a : Int} (hn : 0 < nb) (hnb : nb ≤ 8500) (hab : Builtin.Int.intBits a ≤ 100000) {k : Nat} (hk : k = (digitsOf (nb : Int) a).length := by assumption) : (nb : Int) * (k : Int) ≤ 1000000 := by
  subst hk
  unfold digitsOf
  rw [digs_len]
  have e1 := Int.mul_ediv_add_emod ((Builtin.Int.intBits a : Int) + nb - 1) nb
  have e2 := Int.emod_nonneg ((Builtin.Int.intBits a : Int) + nb - 1) (show (nb : Int) ≠ 0 by omega)
  have h0 : 0 ≤ ((Builtin.Int.intBits a : Int) + nb - 1) / nb := Int.ediv_nonneg (by omega) (by omega)
  rw [Int.toNat_of_nonneg h0]
  omega
theorem DivInv.eqAll {n : Nat} {b : Int} {ds : List Int} {qs : List Int} {r : Int} {k : Nat} (h : DivInv n b ds k qs r) (hk : k = ds.length) : val n qs.reverse * b + r = val n ds := by
  subst hk; exact h.all
end Mine

end
section
namespace Mine
section
variable {prog : Program} {w : World} {A : Around} {E : Value → Shared → Prop} {s : Shared} {env : Env} {h₀ : Heap} {body : List Stmt} {Q : Flow → Shared → Prop} {elts : List Expr} {ek : Nat} {epos : Pos}
/-- a for over a list of tuples, unpacked -/
theorem iter_listT {σ : Type} {l : Addr} {lo : Obj} {vs : List Value} {m₀ : Str → Option Value} (Led : σ → Mine.Led) (ps : σ → List (Str × Value)) (stored : List Str) (P : Nat → σ → Prop) (c₀ : σ)
    (hh : A.handled = none) (hl : (∀ c, (l, lo) ∈ Led c) ∨ h₀.get? l = some lo) (hlc : lo.cls = .type "list") (hld : ∃ e, lo.data = .seq vs.toArray e) (hrefs : ∀ v ∈ vs, ∃ T, v = .ref T)
    (F : Fr h₀ env.locals s.heap m₀) (N : News h₀ env.locals s.heap (Led c₀)) (hk : ∀ p ∈ ps c₀, m₀ p.1 = some p.2) (hp : P 0 c₀)
    (turn : ∀ (i : Nat) (v : Value) (c : σ) (u : Str → Option Value) (h : Heap) (tk : Nat) (I : Addr) (it : Obj), i < vs.length → vs[i]? = some v → P i c → (∀ p ∈ Led c, p.1 ≠ I) → Fr h₀ env.locals h (kstB (fun z => if stored.contains z then u z else m₀ z) (ps c)) → News h₀ env.locals h ((I, it) :: Led c) →
      wpAny (model prog w) A (assign (.Tuple elts ek epos) env v) (fun _ s₃ => wpAny (model prog w) A (execs body env) (TurnPost h₀ env.locals I it { s with heap := h, toks := tk } Led ps stored m₀ P i Q) E s₃) E { s with heap := h, toks := tk })
    (done : ∀ (c : σ) (u : Str → Option Value) (h : Heap) (tk : Nat), P vs.length c → Fr h₀ env.locals h (kstB (fun z => if stored.contains z then u z else m₀ z) (ps c)) → News h₀ env.locals h (Led c) → Q .next { s with heap := h, toks := tk })
    (hE : PassesOwn (model prog w) A env E) :
    wpAny (model prog w) A (pyIter (.ref l)) (fun it s₂ => codeAny (model prog w) A (.forLoop (.Tuple elts ek epos) it body [] env) (fun r s' => match r with | .ok f => Q f s' | .error e => cameBackBy (model prog w) A env E e s') s₂) E s := by
  obtain ⟨e, hld⟩ := hld
  have hget : s.heap.get? l = some lo := by
    rcases hl with hl | hl
    · exact (N _ (hl c₀)).1
    · exact F.keep _ _ hl
  have hls : s.heap.IsList l vs.toArray := ⟨lo, hget, hlc, e, hld⟩
  have hnl : l ≠ s.heap.objs.size := Nat.ne_of_lt (Heap.lt_size hget)
  refine wpAny_pyIter_list hls ?_
  have hLs : env.locals < s.heap.objs.size := F.ns.lt
  have hI₀ : h₀.get? s.heap.objs.size = none := next_is_new F
  have hLl : env.locals ≠ l := by
    rcases hl with hl | hl
    · exact fun q => (N _ (hl c₀)).2.1 q.symm
    · intro q
      have h1 := Heap.lt_size hl
      rw [← q] at h1
      exact absurd (Nat.lt_of_lt_of_le h1 F.above) (Nat.lt_irrefl _)
  generalize hIe : s.heap.objs.size = I at *
  have kst : ∀ (c : σ) (m₁ : Str → Option Value), (∀ p ∈ ps c, m₁ p.1 = some p.2) → (∀ z, (∀ p ∈ ps c, z ≠ p.1) → stored.contains z = false → m₁ z = m₀ z) → m₁ = kstB (fun z => if stored.contains z then m₁ z else m₀ z) (ps c) := by
    intro c m₁ h1 h2
    funext y
    refine (kstB_eq h1 fun hn => ?_).symm
    show (if stored.contains y = true then m₁ y else m₀ y) = m₁ y
    cases h3 : stored.contains y with
    | true => simp
    | false => simp only [Bool.false_eq_true, if_false]; exact (h2 y hn h3).symm
  refine codeAny_forLoop_any
    (fun k s' => ∃ h' tk m' i c, s' = { s with heap := h', toks := tk } ∧ h'.IsListIter I l i ∧ h'.get? l = some lo ∧ Fr h₀ env.locals h' m' ∧ News h₀ env.locals h' (Led c) ∧ (∀ p ∈ Led c, p.1 ≠ I) ∧ (∀ p ∈ ps c, m' p.1 = some p.2) ∧ (∀ z, (∀ p ∈ ps c, z ≠ p.1) → stored.contains z = false → m' z = m₀ z) ∧ P i c ∧ i ≤ vs.length ∧ k = vs.length + 1 - i) ?_ (vs.length + 1) ?_
  · rintro k s' ⟨h', tk, m', i, c, rfl, hit, hlo, F', N', hne', hps, hrest, hP, hi, rfl⟩
    have hls' : h'.IsList l vs.toArray := ⟨lo, hlo, hlc, e, hld⟩
    by_cases hlt : i < vs.length
    · have hv : vs[i]? = some vs[i] := List.getElem?_eq_getElem hlt
      obtain ⟨T, hT⟩ := hrefs vs[i] (List.getElem_mem hlt)
      refine wpAny_pyNext_list_item hit hls' (x := vs[i]) (by simp) fun h₁ hit₁ hs₁ => ?_
      obtain ⟨it, hitg, hitc⟩ := id hit₁
      have keep : ∀ b o, b ≠ I → h'.get? b = some o → h₁.get? b = some o := fun b o hb eo => (hs₁.2 b hb).trans eo
      have oldI : ∀ b o, h₀.get? b = some o → b ≠ I := fun b o eo q => by rw [q, hI₀] at eo; cases eo
      have F₁ : Fr h₀ env.locals h₁ m' := ⟨F'.ns.at' fun o eo => keep _ o (Nat.ne_of_lt hLs) eo, fun b o eo => keep b o (oldI b o eo) (F'.keep b o eo), F'.above⟩
      have N₁ : News h₀ env.locals h₁ ((I, it) :: Led c) := fun p hp => by
        rcases List.mem_cons.mp hp with rfl | hp
        · exact ⟨hitg, Nat.ne_of_gt hLs, hI₀⟩
        · exact ⟨keep _ _ (hne' p hp) (N' p hp).1, (N' p hp).2⟩
      show wpAny _ _ (letOwnedTupleGo _ _ vs[i]) _ _ _
      rw [hT]
      refine wpAny_letOwnedTupleGo_listiter hit₁ ?_
      rw [← hT]
      rw [kst c m' hps hrest] at F₁
      refine wpAny_mono (turn i vs[i] c m' h₁ tk I it hlt hv hP hne' F₁ N₁) (fun _ s₂ h₂ => wpAny_passesOwn hE (wpAny_mono h₂ (fun f s₃ h₃ => ?_) fun _ _ x => x)) hE
      have fin : TurnEnd h₀ env.locals I it { s with heap := h₁, toks := tk } Led ps stored m₀ P i s₃ → ∃ m, m < vs.length + 1 - i ∧ ∃ h' tk m' i c, s₃ = { s with heap := h', toks := tk } ∧ h'.IsListIter I l i ∧ h'.get? l = some lo ∧ Fr h₀ env.locals h' m' ∧ News h₀ env.locals h' (Led c) ∧ (∀ p ∈ Led c, p.1 ≠ I) ∧ (∀ p ∈ ps c, m' p.1 = some p.2) ∧ (∀ z, (∀ p ∈ ps c, z ≠ p.1) → stored.contains z = false → m' z = m₀ z) ∧ P i c ∧ i ≤ vs.length ∧ m = vs.length + 1 - i := by
        rintro ⟨c', h₂', tk', m₂, news', rfl, F₂, N₂, hs₂, hI₂, hne₂, hps₂, hr₂, hp₂⟩
        refine ⟨vs.length + 1 - (i + 1), by omega, h₂', tk', m₂, i + 1, c', rfl, ⟨it, (N₂ _ hI₂).1, hitc⟩, ?_, F₂, fun p hp => N₂ p (hs₂ p hp), hne₂, hps₂, hr₂, hp₂, by omega, rfl⟩
        rcases hl with hl | hl
        · exact (N₂ _ (hs₂ _ (hl c'))).1
        · exact F₂.keep _ _ hl
      cases f with
      | ret v => exact h₃
      | brk => exact h₃
      | next => exact fin h₃
      | cont => exact fin h₃
    · have hin : i = vs.length := by omega
      subst hin
      refine wpAny_pyNext_list_end hh hit hls' (by simp) fun h₁ he₁ => wpAny_execs_nil ?_
      have keep : ∀ b o, b ≠ I → h'.get? b = some o → h₁.get? b = some o := fun b o hb eo => he₁ b o hb eo
      have oldI : ∀ b o, h₀.get? b = some o → b ≠ I := fun b o eo q => by rw [q, hI₀] at eo; cases eo
      have F₁ : Fr h₀ env.locals h₁ m' := ⟨F'.ns.at' fun o eo => keep _ o (Nat.ne_of_lt hLs) eo, fun b o eo => keep b o (oldI b o eo) (F'.keep b o eo), F'.above⟩
      rw [kst c m' hps hrest] at F₁
      exact done c m' h₁ tk hP F₁ fun p hp => ⟨keep _ _ (hne' p hp) (N' p hp).1, (N' p hp).2⟩
  · subst hIe
    exact ⟨_, s.toks, m₀, 0, c₀, rfl, ⟨_, Heap.get?_push_size _ rfl, rfl, rfl⟩, Heap.get?_push_of_some _ hget, F.push _, (fun p hp => ⟨Heap.get?_push_of_some _ (N p hp).1, (N p hp).2⟩), (fun p hp => Nat.ne_of_lt (Heap.lt_size (N p hp).1)), hk, (fun _ _ _ => rfl), hp, Nat.zero_le _, rfl⟩
end
end Mine
namespace Mine
abbrev pobj (r : Int) (x : Str) (t1 t2 : Tok) : Obj := { cls := .type "tuple", data := .seq [.int r t1, .str x t2].toArray }
/-- a list's items are tuples of an int and a text, which stand in a ledger -/
inductive Pairs : List Value → List (Int × Str) → Led → Prop where
  | nil : Pairs [] [] []
  | cons {a : Addr} {r : Int} {x : Str} {t1 t2 : Tok} {vs : List Value} {ps : List (Int × Str)} {tps : Led} : Pairs vs ps tps → Pairs (.ref a :: vs) ((r, x) :: ps) ((a, pobj r x t1 t2) :: tps)
theorem Pairs.refs {vs : List Value} {ps : List (Int × Str)} {tps : Led} (h : Pairs vs ps tps) : ∀ v ∈ vs, ∃ T, v = .ref T := by
  induction h with
  | nil => exact fun _ h => nomatch h
  | @cons a r x t1 t2 vs ps tps _ ih =>
    intro v hv
    rcases List.mem_cons.mp hv with rfl | hv
    · exact ⟨a, rfl⟩
    · exact ih v hv
theorem Pairs.at {vs : List Value} {ps : List (Int × Str)} {tps : Led} (h : Pairs vs ps tps) : ∀ {i : Nat} {v : Value}, vs[i]? = some v → ∃ a r x t1 t2, v = .ref a ∧ ps[i]? = some (r, x) ∧ (a, pobj r x t1 t2) ∈ tps := by
  induction h with
  | nil => intro i v hv; simp at hv
  | @cons a r x t1 t2 vs ps tps _ ih =>
    intro i v hv
    cases i with
    | zero =>
      simp only [List.getElem?_cons_zero, Option.some.injEq] at hv
      exact ⟨a, r, x, t1, t2, hv.symm, rfl, .head _⟩
    | succ i =>
      rw [List.getElem?_cons_succ] at hv
      obtain ⟨a', r', x', u1, u2, e, h1, h2⟩ := ih hv
      exact ⟨a', r', x', u1, u2, e, by rw [List.getElem?_cons_succ]; exact h1, .tail _ h2⟩
theorem Pairs.len {vs : List Value} {ps : List (Int × Str)} {tps : Led} (h : Pairs vs ps tps) : vs.length = ps.length := by
  induction h with
  | nil => rfl
  | cons _ ih => rw [List.length_cons, List.length_cons, ih]
theorem Pairs.snoc {vs : List Value} {ps : List (Int × Str)} {tps : Led} (h : Pairs vs ps tps) (a : Addr) (r : Int) (x : Str) (t1 t2 : Tok) : Pairs (vs ++ [.ref a]) (ps ++ [(r, x)]) (tps ++ [(a, pobj r x t1 t2)]) := by
  induction h with
  | nil => exact .cons .nil
  | cons _ ih => exact .cons ih
/-- what the law's own _law_told tells -/
def toldOf (pw : Int) : List (Int × Str) → List Nat
  | [] => []
  | (r, x) :: rest => List.replicate (r / pw).toNat 34 ++ (if r % pw = 0 then x.cps.toList ++ toldOf pw rest else [])
structure ToldInv (pw : Int) (pcs : List (Int × Str)) (i : Nat) (told : Str) : Prop where
  len : told.length ≤ 30 * i
  eq : told.cps.toList ++ toldOf pw (pcs.drop i) = toldOf pw pcs
theorem ToldInv.start {pw : Int} {pcs : List (Int × Str)} : ToldInv pw pcs 0 (Str.ofString "") := ⟨by decide, by rw [show Str.ofString "" = S [] from S_lit rfl, S_cps]; rfl⟩
end Mine
namespace Mine
theorem told_bits {r pw : Int} (h0 : 0 ≤ r) (h1 : r ≤ 24) (hp : 0 < pw) (hp2 : pw ≤ 32) : Builtin.Int.intBits r ≤ 100000 ∧ Builtin.Int.intBits pw ≤ 8500 ∧ (Builtin.Int.intBits r : Int) ≤ 1000 * (Builtin.Int.intBits pw : Int) := by
  have a := bits_of_lt (k := 5) h0 (by omega)
  have b := bits_of_lt (k := 6) (Int.le_of_lt hp) (by omega)
  have c := bits_pos hp
  exact ⟨by omega, by omega, by omega⟩
theorem told_q {q rr r pw : Int} (h0 : 0 ≤ r) (h1 : r ≤ 24) (hp : 0 < pw) (e1 : q * pw + rr = r) (e2 : 0 ≤ rr) (e3 : rr < pw) : 0 ≤ q ∧ q ≤ 24 := by
  have hq : 0 ≤ q := pos_factor hp (by rw [Int.add_mul]; omega)
  have h3 : q * 1 ≤ q * pw := Int.mul_le_mul_of_nonneg_left (by omega) hq
  exact ⟨hq, by omega⟩
end Mine
namespace Mine
theorem quotes_list (q : Int) : (Txt.mul (Str.ofString "\"") q).cps.toList = List.replicate q.toNat 34 := by
  rw [quote_lit]; exact mul_one_list 34 q
theorem quotes_len {q : Int} (h0 : 0 ≤ q) : ((Txt.mul (Str.ofString "\"") q).length : Int) = q := by
  have : (Txt.mul (Str.ofString "\"") q).length = q.toNat := by
    show (Txt.mul (Str.ofString "\"") q).cps.size = _
    rw [← Array.length_toList, quotes_list, List.length_replicate]
  omega
theorem told_split {pw : Int} {pcs : List (Int × Str)} {i : Nat} {r : Int} {x : Str} (hpi : pcs[i]? = some (r, x)) : toldOf pw (pcs.drop i) = List.replicate (r / pw).toNat 34 ++ (if r % pw = 0 then x.cps.toList ++ toldOf pw (pcs.drop (i + 1)) else []) := by
  have hi : i < pcs.length := by
    rcases Nat.lt_or_ge i pcs.length with h | h
    · exact h
    · rw [List.getElem?_eq_none h] at hpi; cases hpi
  rw [List.getElem?_eq_getElem hi] at hpi
  rw [List.drop_eq_getElem_cons hi, Option.some.inj hpi, toldOf]
theorem divmod_unique {q rr r pw : Int} (hp : 0 < pw) (e1 : q * pw + rr = r) (e2 : 0 ≤ rr) (e3 : rr < pw) : r / pw = q ∧ r % pw = rr := kbt_unique hp (by rw [← e1, Int.mul_comm]; omega) e2 e3
section
variable {pw : Int} {pcs : List (Int × Str)} {i : Nat} {told x : Str} {q rr r : Int}
theorem ToldInv.stop (h : ToldInv pw pcs i told) (hpi : pcs[i]? = some (r, x)) (hp : 0 < pw) (e1 : q * pw + rr = r) (e2 : 0 ≤ rr) (e3 : rr < pw) (hne : rr ≠ 0) : told ++ Txt.mul (Str.ofString "\"") q = S (toldOf pw pcs) := by
  obtain ⟨d1, d2⟩ := divmod_unique hp e1 e2 e3
  apply str_of_list
  rw [cps_app, quotes_list, ← h.eq, told_split hpi, d1, d2, if_neg hne, List.append_nil]
theorem ToldInv.next (h : ToldInv pw pcs i told) (hpi : pcs[i]? = some (r, x)) (hp : 0 < pw) (e1 : q * pw + rr = r) (e2 : 0 ≤ rr) (e3 : rr < pw) (hne : rr = 0) (hq0 : 0 ≤ q) (hq1 : q ≤ 24) (hx : x.length ≤ 1) : ToldInv pw pcs (i + 1) (told ++ Txt.mul (Str.ofString "\"") q ++ x) := by
  obtain ⟨d1, d2⟩ := divmod_unique hp e1 e2 e3
  have hl := quotes_len hq0
  have := h.len
  refine ⟨by rw [len_app, len_app]; omega, ?_⟩
  rw [cps_app, cps_app, quotes_list, ← h.eq, told_split hpi, d1, d2, if_pos hne]
  simp only [List.append_assoc]
theorem ToldInv.fin (h : ToldInv pw pcs pcs.length told) : told = S (toldOf pw pcs) := by
  apply str_of_list
  have := h.eq
  rw [List.drop_length, toldOf, List.append_nil] at this
  exact this
end
end Mine
namespace Mine
section
variable {x y : Addr × Obj} {a b n : Led}
theorem sub_ret : ∀ p ∈ a ++ (b ++ n), p ∈ x :: (a ++ (b ++ (y :: n))) := by
  intro p hp
  simp only [List.mem_append, List.mem_cons] at hp ⊢
  rcases hp with h | h | h <;> simp only [h, true_or, or_true]
theorem told_ne {t1 t2 : Led} {I : Addr} (h : ∀ p ∈ a ++ b, p.1 ≠ I) (k : ∀ p ∈ t1 ++ (t2 ++ n), p.1 ≠ I) : ∀ p ∈ a ++ (b ++ n), p.1 ≠ I := by
  intro p hp
  rcases List.mem_append.mp hp with h1 | h1
  · exact h p (List.mem_append_left _ h1)
  · rcases List.mem_append.mp h1 with h2 | h2
    · exact h p (List.mem_append_right _ h2)
    · exact k p (List.mem_append_right _ (List.mem_append_right _ h2))
end
end Mine

end
section
namespace Mine
def CallOkH (prog : Program) (w : World) (K : Frag) (f : Addr) (vs : List Value) (dep uni : Nat) (news : Led) (H : Heap → Prop) (Post : Value → Led → Prop) : Prop :=
  ∀ (p : Program) (loose : List Str) (mean : ExcName → Option Value) (mg mb : Str → Option Value) (dp un : Nat) (gd : Option (List Code)) (cn : Str) (cs : Scope) (a : Addr) (ccd : Value) (cl : List (Str × Addr)) (outer : List Env) (A₀ : Around) (base h₀ : Heap) (L : Addr) (m : Str → Option Value) (s : Shared) (Q E : Value → Shared → Prop),
    Below A₀ base outer h₀ → Fr h₀ L s.heap m → K.In h₀ → News h₀ L s.heap news → H h₀ → Top p loose mean mg mb h₀ → cs.kind = .function → dp + dep < recursionLimit → un + uni < cLine →
    (∀ r news' h' tk', Fr h₀ L h' m → News h₀ L h' news' → Post r news' → Q r { s with heap := h', toks := tk' }) →
    wpAny (model prog w) (ktrTop dp un gd cn cs L a ccd cl outer) (call (.ref f) vs) Q E s
def BodyOkH (prog : Program) (w : World) (K : Frag) (qual : Str) (scope : Scope) (f : Addr) (cdv : Value) (cl : List (Str × Addr)) (body : List Stmt) (binds : List (Str × Value)) (dep uni : Nat) (news : Led) (H : Heap → Prop) (Post : Value → Led → Prop) : Prop :=
  ∀ (p : Program) (loose : List Str) (mean : ExcName → Option Value) (mg mb : Str → Option Value) (dp un : Nat) (gd : Option (List Code)) (outer : List Env) (A₀ : Around) (base g : Heap) (L : Addr) (s : Shared),
    Below A₀ base outer g → Fr g L s.heap (fun y => binds.reverse.lookup y) → K.In g → News g L s.heap news → H g → (∀ p ∈ news, p.1 < L) → Top p loose mean mg mb g → dp + dep < recursionLimit → un + uni < cLine →
    wpAny (model prog w) (ktrTop dp un gd qual scope L f cdv cl outer) (execs body (envX qual scope L f cdv cl)) (Ends g L s Post) (fun _ _ => False) s
theorem callOkH_of_body {prog : Program} {w : World} {K : Frag} {f : Addr} {vs : List Value} {dep uni : Nat} {news : Led} {H : Heap → Prop} {Post : Value → Led → Prop}
    {name qual : Str} {params : Arguments} {body : List Stmt} {scope : Scope} {dV kV doc pm cdv ct oc : Value} {an od : Option Addr} {osl : Array (Option Value)} (binds : List (Str × Value))
    (ho : K.lookup f = some ⟨oc, od, .func (fnOf name qual params body scope dV kV doc pm an cdv ct), osl⟩) (hcd : codeIn K cdv qual = true)
    (hbind : ∀ s, BindsTo s (fnOf name qual params body scope dV kV doc pm an cdv ct) ⟨vs, []⟩ binds) (hloc : ∀ y ∈ binds, scope.names.lookup y.1 = some .local)
    (hH : ∀ h h' : Heap, h.StaysIn h' → H h → H h')
    (h : BodyOkH prog w K qual scope f cdv [] body binds dep uni news H Post)
    (hco : scope.isCoroutine = false) (hgen : scope.isGenerator = false) (hk : scope.kind = .function)
    (hcell : ∀ x ∈ scope.names, x.2 ≠ .cell) : CallOkH prog w K f vs (dep + 1) (uni + 3) news H Post := by
  intro p loose mean mg mb dp un gd cn cs a ccd cl outer A₀ base h₀ L m s Q E B F X N h1 T hkc hd hu hret
  refine wpAny_call ?_
  refine callX_plain (cl := []) (binds := binds) (env := envX cn cs L a ccd cl) B F N T.nolimit rfl rfl hkc ((X.keeps F.keep) _ _ ho) rfl (codeRec_of (X.keeps F.keep) hcd) (by show dp < recursionLimit; omega) (hbind s) hloc (fun g L' h₁ FG F' N' B' st lt => ?_) hcell hco hgen hk
  refine wpAny_mono (h p loose mean mg mb (dp + 1) (un + 3) gd (envX cn cs L a ccd cl :: outer) _ base g L' { s with heap := h₁, toks := s.toks + binds.length } B' F' (X.keeps st) N' (hH _ _ st h1) lt (T.keeps st) (by omega) (by omega)) (fun fl s' hl => ?_) (fun _ _ e => e.elim)
  obtain ⟨m', news', h', tk', rfl, F2, N2, hp⟩ := hl
  exact leaveK_ F2 N2 fun F3 N3 => hret _ _ _ _ F3 N3 hp
theorem CallOkH.use {prog : Program} {w : World} {K : Frag} {f : Addr} {vs : List Value} {dep uni : Nat} {news : Led} {H : Heap → Prop} {Post : Value → Led → Prop}
    {p : Program} {loose : List Str} {mean : ExcName → Option Value} {mg mb : Str → Option Value} {dp un : Nat} {gd : Option (List Code)} {cn : Str} {cs : Scope} {a : Addr} {ccd : Value} {cl : List (Str × Addr)} {outer : List Env} {A₀ : Around} {base h₀ : Heap} {L : Addr} {m : Str → Option Value} {s : Shared} {Q E : Value → Shared → Prop}
    (C : CallOkH prog w K f vs dep uni news H Post) (B : Below A₀ base outer h₀) (F : Fr h₀ L s.heap m) (X : K.In h₀) (N : News h₀ L s.heap news) (hH : H h₀) (T : Top p loose mean mg mb h₀) (hk : cs.kind = .function) (hd : dp + dep < recursionLimit) (hu : un + uni < cLine)
    (ret : ∀ r news' h' tk', Fr h₀ L h' m → News h₀ L h' news' → Post r news' → Q r { s with heap := h', toks := tk' }) :
    wpAny (model prog w) (ktrTop dp un gd cn cs L a ccd cl outer) (call (.ref f) vs) Q E s :=
  C p loose mean mg mb dp un gd cn cs a ccd cl outer A₀ base h₀ L m s Q E B F X N hH T hk hd hu ret
/-- the script's list, at a heap -/
def ListAt (l : Addr) (vs : List Value) (h : Heap) : Prop := ∃ lo e, h.get? l = some lo ∧ lo.cls = .type "list" ∧ lo.data = .seq vs.toArray e
theorem ListAt.keep {l : Addr} {vs : List Value} : ∀ h h' : Heap, h.StaysIn h' → ListAt l vs h → ListAt l vs h' := fun _ _ st ⟨lo, e, h1, h2, h3⟩ => ⟨lo, e, st _ _ h1, h2, h3⟩
theorem ListAt.isList {l : Addr} {vs : List Value} {h : Heap} (x : ListAt l vs h) : h.IsList l vs.toArray := let ⟨lo, e, h1, h2, h3⟩ := x; ⟨lo, h1, h2, e, h3⟩
theorem ListAt.of {l : Addr} {vs : List Value} {h : Heap} (x : h.IsList l vs.toArray) : ListAt l vs h := let ⟨lo, h1, h2, e, h3⟩ := x; ⟨lo, e, h1, h2, h3⟩
end Mine
namespace Mine
theorem int_at {vs : List Value} {ns : List Int} (h : IntsAre vs ns) {i : Nat} {v : Value} (hv : vs[i]? = some v) : ∃ x t, v = .int x t ∧ ns[i]? = some x := by
  have hi : i < vs.length := by
    rcases Nat.lt_or_ge i vs.length with h | h
    · exact h
    · rw [List.getElem?_eq_none h] at hv; cases hv
  have hi' : i < ns.length := by rw [← h.length]; exact hi
  have hd : ns[i]? = some ns[i] := List.getElem?_eq_getElem hi'
  obtain ⟨t, hx⟩ := h.get i _ hd
  rw [hx] at hv
  exact ⟨_, t, (Option.some.inj hv).symm, hd⟩
/-- one piece of the law's text -/
def signCode (x : Int) : Nat := let c := x.natAbs / 16 % 1114111; if 34 ≤ c then c + 1 else c
def pieceOf (x : Int) : Int × Str := (((x.natAbs % 4 * 2 ^ (x.natAbs / 4 % 4) : Nat) : Int), S [signCode x])
end Mine
namespace Mine
section
variable {x y z u : Addr × Obj} {n : Led}
theorem sub_p0 : ∀ p ∈ u :: ([] ++ (x :: n)), p ∈ x :: y :: z :: u :: n := by
  intro p hp
  simp only [List.nil_append, List.mem_cons] at hp ⊢
  rcases hp with h | h | h <;> simp only [h, true_or, or_true]
theorem sub_p1 {a : Led} : ∀ p ∈ u :: ((a ++ [x]) ++ n), p ∈ x :: y :: u :: (a ++ n) := by
  intro p hp
  simp only [List.mem_append, List.mem_cons, List.not_mem_nil, or_false] at hp ⊢
  rcases hp with h | (h | h) | h <;> simp only [h, true_or, or_true]
end
end Mine
namespace Mine
theorem abs_eq (x : Int) : (if x < 0 then -x else x) = (x.natAbs : Int) := by split <;> omega
theorem fmod_nat (a b : Nat) : (a : Int).fmod (b : Int) = ((a % b : Nat) : Int) := by rw [Int.fmod_eq_emod_of_nonneg _ (by omega)]; rfl
theorem fdiv_nat (a b : Nat) : (a : Int).fdiv (b : Int) = ((a / b : Nat) : Int) := by rw [Int.fdiv_eq_ediv_of_nonneg _ (by omega)]; rfl
theorem run_eq (x : Int) : (if x < 0 then -x else x).fmod 4 * 2 ^ (((if x < 0 then -x else x).fdiv 4).fmod 4).toNat = (pieceOf x).1 := by
  rw [abs_eq]
  have e1 : (x.natAbs : Int).fmod 4 = ((x.natAbs % 4 : Nat) : Int) := fmod_nat _ 4
  have e2 : (x.natAbs : Int).fdiv 4 = ((x.natAbs / 4 : Nat) : Int) := fdiv_nat _ 4
  have e3 : (((x.natAbs / 4 : Nat) : Int)).fmod 4 = ((x.natAbs / 4 % 4 : Nat) : Int) := fmod_nat _ 4
  rw [e1, e2, e3, Int.toNat_natCast, ← kbt_cast, ← Int.natCast_mul]
  rfl
theorem code_eq (x : Int) : ((if x < 0 then -x else x).fdiv 16).fmod 1114111 = ((x.natAbs / 16 % 1114111 : Nat) : Int) := by
  rw [abs_eq]
  have e2 : (x.natAbs : Int).fdiv 16 = ((x.natAbs / 16 : Nat) : Int) := fdiv_nat _ 16
  have e3 : (((x.natAbs / 16 : Nat) : Int)).fmod 1114111 = ((x.natAbs / 16 % 1114111 : Nat) : Int) := fmod_nat _ 1114111
  rw [e2, e3]
theorem piece_ge {x : Int} (h : 34 ≤ ((if x < 0 then -x else x).fdiv 16).fmod 1114111) : ((if x < 0 then -x else x).fmod 4 * 2 ^ (((if x < 0 then -x else x).fdiv 4).fmod 4).toNat, (⟨#[(((if x < 0 then -x else x).fdiv 16).fmod 1114111 + 1).toNat]⟩ : Str)) = pieceOf x := by
  rw [run_eq]
  rw [code_eq] at h ⊢
  refine Prod.ext rfl ?_
  show (⟨#[(((x.natAbs / 16 % 1114111 : Nat) : Int) + 1).toNat]⟩ : Str) = S [signCode x]
  have e : (((x.natAbs / 16 % 1114111 : Nat) : Int) + 1).toNat = signCode x := by
    unfold signCode; simp only; rw [if_pos (by omega)]; omega
  rw [e]; rfl
theorem piece_lt {x : Int} (h : ¬ 34 ≤ ((if x < 0 then -x else x).fdiv 16).fmod 1114111) : ((if x < 0 then -x else x).fmod 4 * 2 ^ (((if x < 0 then -x else x).fdiv 4).fmod 4).toNat, (⟨#[(((if x < 0 then -x else x).fdiv 16).fmod 1114111).toNat]⟩ : Str)) = pieceOf x := by
  rw [run_eq]
  rw [code_eq] at h ⊢
  refine Prod.ext rfl ?_
  show (⟨#[(((x.natAbs / 16 % 1114111 : Nat) : Int)).toNat]⟩ : Str) = S [signCode x]
  have e : (((x.natAbs / 16 % 1114111 : Nat) : Int)).toNat = signCode x := by
    unfold signCode; simp only; rw [if_neg (by omega)]; omega
  rw [e]; rfl
theorem take_map {α β : Type} {f : α → β} {xs : List α} {i : Nat} {x : α} (h : xs[i]? = some x) : (xs.take (i + 1)).map f = (xs.take i).map f ++ [f x] := by
  rw [List.take_add_one, h]; simp
theorem Pairs.grow {vs : List Value} {ps : List (Int × Str)} {tps : Led} {a : Addr} {r : Int} {y : Str} {t1 t2 : Tok} {q : Int × Str} {ps' : List (Int × Str)} (h : Pairs vs ps tps) (hq : (r, y) = q) (hp : ps' = ps ++ [q]) : Pairs (vs ++ [.ref a]) ps' (tps ++ [(a, pobj r y t1 t2)]) := by
  rw [hp, ← hq]; exact h.snoc a r y t1 t2
theorem ne_p1 {u x : Addr × Obj} {a n : Led} {X : Addr} (h : ∀ p ∈ a ++ n, p.1 ≠ X) (hu : u.1 ≠ X) (hx : x.1 ≠ X) : ∀ p ∈ u :: ((a ++ [x]) ++ n), p.1 ≠ X := by
  intro p hp
  simp only [List.mem_append, List.mem_cons, List.not_mem_nil, or_false] at hp
  rcases hp with rfl | (h1 | rfl) | h1
  · exact hu
  · exact h p (List.mem_append_left _ h1)
  · exact hx
  · exact h p (List.mem_append_right _ h1)
theorem ne_p2 {x : Addr × Obj} {a n : Led} {X : Addr} (h : ∀ p ∈ a ++ n, p.1 ≠ X) (hx : x.1 ≠ X) : ∀ p ∈ (a ++ [x]) ++ n, p.1 ≠ X := by
  intro p hp
  simp only [List.mem_append, List.mem_cons, List.not_mem_nil, or_false] at hp
  rcases hp with (h1 | rfl) | h1
  · exact h p (List.mem_append_left _ h1)
  · exact hx
  · exact h p (List.mem_append_right _ h1)
/-- what the law's own _law_pieces makes -/
def piecesOf (ns : List Int) : List (Int × Str) := (ns.take 8 ++ [1566, 1578]).map pieceOf ++ [(((ns.length % 4 * 8 : Nat) : Int), S [])]
end Mine
namespace Mine
theorem up_grow {a : Led} {x : Addr} {o : Obj} {y : Addr × Obj} {n : Led} (h : ∀ p ∈ a, ∀ q ∈ n, q.1 < p.1) (k : AllLt x (a ++ (y :: n))) : ∀ p ∈ a ++ [(x, o)], ∀ q ∈ n, q.1 < p.1 := by
  intro p hp q hq
  rcases List.mem_append.mp hp with h1 | h1
  · exact h p h1 q hq
  · rw [List.mem_singleton.mp h1]
    exact ktn_ltOf k q (List.mem_append_right _ (.tail _ hq))
theorem sub_p3 {u x y : Addr × Obj} {a n : Led} : ∀ p ∈ u :: ((a ++ [x]) ++ n), p ∈ x :: u :: (a ++ (y :: n)) := by
  intro p hp
  simp only [List.mem_append, List.mem_cons, List.not_mem_nil, or_false] at hp ⊢
  rcases hp with h | (h | h) | h <;> simp only [h, true_or, or_true]
theorem ne_p3 {x y : Addr × Obj} {a n : Led} {X : Addr} (h : ∀ p ∈ a ++ (y :: n), p.1 ≠ X) (hx : x.1 ≠ X) : ∀ p ∈ (a ++ [x]) ++ n, p.1 ≠ X := by
  intro p hp
  simp only [List.mem_append, List.mem_cons, List.not_mem_nil, or_false] at hp
  rcases hp with (h1 | rfl) | h1
  · exact h p (List.mem_append_left _ h1)
  · exact hx
  · exact h p (List.mem_append_right _ (.tail _ h1))
theorem last_eq (k : Nat) : ((k : Int).fmod 4 * 8, Str.ofString "") = (((k % 4 * 8 : Nat) : Int), S []) := by
  have e1 : (k : Int).fmod 4 = ((k % 4 : Nat) : Int) := fmod_nat _ 4
  rw [e1, show Str.ofString "" = S [] from S_lit rfl]
  rfl
end Mine

end
section
namespace Mine
/-- the pieces of the law's text: signs that are no quotes between the runs, none behind the last -/
inductive Good : List (Int × Str) → Prop where
  | last (r : Int) : 0 ≤ r → r ≤ 24 → Good [(r, S [])]
  | cons (r : Int) (c : Nat) (rest : List (Int × Str)) : 0 ≤ r → r ≤ 24 → c ≠ 34 → Good rest → Good ((r, S [c]) :: rest)
theorem rd_even (k : Nat) (t : List Nat) : rd (List.replicate (2 * k) 34 ++ t) = List.replicate k 34 ++ rd t := by
  induction k with
  | zero => simp
  | succ k ih =>
    rw [show 2 * (k + 1) = 2 * k + 1 + 1 by omega, List.replicate_succ, List.replicate_succ, List.cons_append, List.cons_append, rd_qq, ih, List.replicate_succ, List.cons_append]
theorem rd_odd_nil (k : Nat) : rd (List.replicate (2 * k + 1) 34 ++ []) = List.replicate k 34 := by
  rw [List.replicate_succ', List.append_nil, rd_even, rd_q1, List.append_nil]
theorem rd_odd_c (k c : Nat) (t : List Nat) (h : c ≠ 34) : rd (List.replicate (2 * k + 1) 34 ++ (c :: t)) = List.replicate k 34 := by
  rw [List.replicate_succ', List.append_assoc, rd_even, List.singleton_append, rd_qc _ h, List.append_nil]
theorem rd_nilrun (q : Nat) : rd (List.replicate q 34 ++ []) = List.replicate (q / 2) 34 := by
  rcases Nat.mod_two_eq_zero_or_one q with h | h
  · have e : q = 2 * (q / 2) := by omega
    rw [e, rd_even, rd_nil, List.append_nil]; congr 1; omega
  · have e : q = 2 * (q / 2) + 1 := by omega
    rw [e, rd_odd_nil]; congr 1; omega
theorem half_q {r pw : Int} (h0 : 0 ≤ r) (hp : 0 < pw) : (r / (2 * pw)).toNat = (r / pw).toNat / 2 := by
  have e : r / (2 * pw) = r / pw / 2 := by rw [Int.mul_comm, Int.ediv_ediv_of_nonneg (by omega)]
  have := Int.ediv_nonneg h0 (Int.le_of_lt hp)
  rw [e]; omega
theorem mod_two {r pw : Int} (hp : 0 < pw) : r % (2 * pw) = r % pw + pw * ((r / pw) % 2) := by
  have h1 := Int.emod_add_mul_ediv r (2 * pw)
  have h2 := Int.emod_add_mul_ediv r pw
  have h3 := Int.emod_add_mul_ediv (r / pw) 2
  have e : r / (2 * pw) = r / pw / 2 := by rw [Int.mul_comm, Int.ediv_ediv_of_nonneg (by omega)]
  rw [e] at h1
  have h4 : pw * (r / pw) = pw * ((r / pw) % 2) + 2 * pw * (r / pw / 2) := by
    rw [Int.mul_comm 2 pw, Int.mul_assoc, ← Int.mul_add, h3]
  omega
theorem mod_ne {r pw : Int} (hp : 0 < pw) (h : r % pw ≠ 0) : r % (2 * pw) ≠ 0 := by
  rw [mod_two hp]
  have h1 := Int.emod_nonneg r (Int.ne_of_gt hp)
  rcases Int.emod_two_eq (r / pw) with e | e <;> rw [e] <;> omega
theorem mod_even {r pw : Int} (hp : 0 < pw) (h0 : 0 ≤ r) (h : r % pw = 0) (he : (r / pw).toNat % 2 = 0) : r % (2 * pw) = 0 := by
  have := Int.ediv_nonneg h0 (Int.le_of_lt hp)
  have e : (r / pw) % 2 = 0 := by omega
  rw [mod_two hp, h, e]; omega
theorem mod_odd {r pw : Int} (hp : 0 < pw) (h0 : 0 ≤ r) (h : r % pw = 0) (he : (r / pw).toNat % 2 = 1) : r % (2 * pw) ≠ 0 := by
  have := Int.ediv_nonneg h0 (Int.le_of_lt hp)
  have e : (r / pw) % 2 = 1 := by omega
  rw [mod_two hp, h, e]; omega
theorem rd_told {pw : Int} (hp : 0 < pw) {pcs : List (Int × Str)} (hG : Good pcs) : rd (toldOf pw pcs) = toldOf (2 * pw) pcs := by
  induction hG with
  | last r h0 h1 =>
    rw [toldOf, toldOf, toldOf, toldOf, S_cps]
    simp only [List.append_nil, ite_self]
    have := rd_nilrun (r / pw).toNat
    rw [List.append_nil] at this
    rw [this, half_q h0 hp]
  | cons r c rest h0 h1 hc hG ih =>
    rw [toldOf, toldOf, half_q h0 hp, S_cps]
    by_cases hm : r % pw = 0
    · rw [if_pos hm]
      rcases Nat.mod_two_eq_zero_or_one (r / pw).toNat with h | h
      · rw [if_pos (mod_even hp h0 hm h)]
        have e : (r / pw).toNat = 2 * ((r / pw).toNat / 2) := by omega
        rw [e, rd_even, List.singleton_append, rd_c _ hc, ih]
        rw [← e]; rfl
      · rw [if_neg (mod_odd hp h0 hm h)]
        have e : (r / pw).toNat = 2 * ((r / pw).toNat / 2) + 1 := by omega
        rw [e, List.singleton_append, rd_odd_c _ _ _ hc, ← e, List.append_nil]
    · rw [if_neg hm, if_neg (mod_ne hp hm), rd_nilrun, List.append_nil]
theorem told_len {pw : Int} {pcs : List (Int × Str)} (hG : Good pcs) : (toldOf pw pcs).length ≤ 25 * pcs.length := by
  have hq : ∀ r : Int, 0 ≤ r → r ≤ 24 → (r / pw).toNat ≤ 24 := fun r h0 h1 => by
    have : r / pw ≤ r := Int.ediv_le_self _ h0
    omega
  induction hG with
  | last r h0 h1 =>
    have := hq r h0 h1
    rw [toldOf, toldOf, S_cps]
    simp; omega
  | cons r c rest h0 h1 hc hG ih =>
    have := hq r h0 h1
    rw [toldOf, S_cps, List.length_append, List.length_replicate, List.length_cons]
    split
    · rw [List.length_append, List.length_singleton]; omega
    · simp; omega
/-- one piece as it stands in the text -/
def pieceText (p : Int × Str) : Str := Txt.mul (Str.ofString "\"") p.1 ++ p.2
theorem told_one (pcs : List (Int × Str)) : (pcs.map fun p => (pieceText p).cps.toList).flatten = toldOf 1 pcs := by
  induction pcs with
  | nil => rfl
  | cons p rest ih =>
    obtain ⟨r, x⟩ := p
    rw [List.map_cons, List.flatten_cons, ih, toldOf, pieceText, cps_app, quotes_list]
    simp
theorem join_cps (ys : List Str) : (Txt.join (Str.ofString "") ys) = S ((ys.map fun y => y.cps.toList).flatten) := by
  show PySem.Builtin.Str.glued _ _ = _
  rw [StrLaws.glued_eq_join, show Str.ofString "" = ⟨#[]⟩ from S_lit rfl]
  induction ys with
  | nil => rfl
  | cons a r ih =>
    rw [join_nil_cons, ih, S_toList a, S_app, List.map_cons, List.flatten_cons, S_cps]
theorem good_pieces (xs : List Int) (k : Nat) : Good (xs.map pieceOf ++ [(((k % 4 * 8 : Nat) : Int), S [])]) := by
  induction xs with
  | nil => exact .last _ (by omega) (by omega)
  | cons x xs ih =>
    refine .cons _ (signCode x) _ ?_ ?_ ?_ ih
    · show (0 : Int) ≤ ((_ : Nat) : Int); omega
    · show ((x.natAbs % 4 * 2 ^ (x.natAbs / 4 % 4) : Nat) : Int) ≤ 24
      have h1 : x.natAbs % 4 ≤ 3 := by omega
      have h2 : 2 ^ (x.natAbs / 4 % 4) ≤ 2 ^ 3 := Nat.pow_le_pow_right (by omega) (by omega)
      have := Nat.mul_le_mul h1 h2
      omega
    · unfold signCode; simp only; split <;> omega
theorem Good.ok {pcs : List (Int × Str)} (h : Good pcs) : ∀ p ∈ pcs, 0 ≤ p.1 ∧ p.1 ≤ 24 ∧ p.2.length ≤ 1 := by
  induction h with
  | last r h0 h1 => intro p hp; rw [List.mem_singleton.mp hp]; exact ⟨h0, h1, by rw [S_len]; simp⟩
  | cons r c rest h0 h1 hc hG ih =>
    intro p hp
    rcases List.mem_cons.mp hp with rfl | hp
    · exact ⟨h0, h1, by rw [S_len]; simp⟩
    · exact ih p hp
theorem sum_texts {pcs : List (Int × Str)} (h : ∀ p ∈ pcs, 0 ≤ p.1 ∧ p.1 ≤ 24 ∧ p.2.length ≤ 1) : ((pcs.map pieceText).map (·.length)).sum ≤ 25 * pcs.length := by
  induction pcs with
  | nil => simp
  | cons p rest ih =>
    have h1 := ih fun q hq => h q (.tail _ hq)
    obtain ⟨a, b, c⟩ := h p (.head _)
    have h2 := quotes_len a
    rw [List.map_cons, List.map_cons, List.sum_cons, List.length_cons, pieceText, len_app]
    omega
theorem join_told (pcs : List (Int × Str)) : Txt.join (Str.ofString "") (pcs.map pieceText) = S (toldOf 1 pcs) := by
  rw [join_cps, List.map_map, ← told_one]; rfl
theorem open_app (t : List Nat) : Str.ofString "257 \"" ++ S t = S (opening ++ t) := by
  rw [show Str.ofString "257 \"" = S opening from S_lit rfl, S_app]
theorem strs_snoc {vs : List Value} {ys : List Str} (h : StrsAre vs ys) (y : Str) (t : Tok) : StrsAre (vs ++ [.str y t]) (ys ++ [y]) := by
  induction h with
  | nil => exact .cons _ _ .nil
  | cons a b _ ih => exact .cons a b ih
theorem strs_piece {vs : List Value} {ys : List Str} {r : Int} {x : Str} {t : Tok} (h : StrsAre vs ys) : StrsAre (vs ++ [.str (Txt.mul (Str.ofString "\"") r ++ x) t]) (ys ++ [pieceText (r, x)]) := by
  rw [pieceText]; exact strs_snoc h _ t
end Mine
namespace Mine
open LCg LCp
section
variable {prog : Program} {w : World} {A : Around} {s : Shared} {h₀ : Heap} {L : Addr} {m : Str → Option Value} {env : Env}
theorem compRestP_of {elt : Expr} {x x₂ : Str} {scope : Scope} {cl : List (Str × Addr)} {S : Led → Prop} {P : Nat → Value → Prop} {Fin : List Value → Led → Prop} (Inv : Nat → List Value → Led → Prop) (n : Nat)
    (turn : ∀ i ys news v, i < n → P i v → Inv i ys news → ∃ (t : Addr) (ot : Obj) (v₁ v₂ : Value) (nt : Nat), v = .ref t ∧ (t, ot) ∈ news ∧ ot.cls = .type "tuple" ∧ ot.data = .seq #[v₁, v₂] nt ∧
      ∀ I oI C oC D m₂ h tk (E' : Value → Shared → Prop), NsObj oC m₂ → m₂ x = some v₁ → m₂ x₂ = some v₂ → Fr h₀ L h m → News h₀ L h ((I, oI) :: (C, oC) :: (D, lst ys) :: news) → Off3 I C D news → ((@Ne Nat I C) ∧ (@Ne Nat I D) ∧ (@Ne Nat C D)) →
      wpAny (model prog w) A (eval elt (compEnvC scope cl C env)) (CompEnd h₀ L m { s with heap := h, toks := tk } I oI C oC D (lst ys) S (fun y news' => Inv (i + 1) (ys ++ [y]) news')) E' { s with heap := h, toks := tk })
    (fin : ∀ ys news, Inv n ys news → Fin ys news) : ∀ (k i : Nat) (ys : List Value) (news : Led), i + k = n → Inv i ys news → CompRestP prog w A h₀ L m env elt x x₂ scope cl s S P Fin k i ys news := by
  intro k
  induction k with
  | zero => intro i ys news hi hI; exact CompRestP.zero (fin _ _ (by rw [← hi]; exact hI))
  | succ k ih =>
    intro i ys news hi hI
    refine CompRestP.succ fun v hv => ?_
    obtain ⟨t, ot, v₁, v₂, nt, e1, e2, e3, e4, go⟩ := turn i ys news v (by omega) hv hI
    refine ⟨t, ot, v₁, v₂, nt, e1, e2, e3, e4, fun I oI C oC D m₂ h tk E' a1 a2 a3 a4 a5 a6 a7 => ?_⟩
    refine wpAny_mono (go I oI C oC D m₂ h tk E' a1 a2 a3 a4 a5 a6 a7) (fun y s₂ hs => ?_) fun _ _ e => e
    obtain ⟨h', tk', news', e, F, N, off, hS, r⟩ := hs
    exact ⟨h', tk', news', e, F, N, off, hS, ih (i + 1) _ _ (by omega) r⟩
theorem compRest_of {elt : Expr} {x : Str} {scope : Scope} {cl : List (Str × Addr)} {S : Led → Prop} {P : Nat → Value → Prop} {Fin : List Value → Led → Prop} (Inv : Nat → List Value → Led → Prop) (n : Nat)
    (turn : ∀ i ys news v, i < n → P i v → Inv i ys news →
      ∀ I oI C oC D m₂ h tk (E' : Value → Shared → Prop), NsObj oC m₂ → m₂ x = some v → Fr h₀ L h m → News h₀ L h ((I, oI) :: (C, oC) :: (D, lst ys) :: news) → Off3 I C D news → ((@Ne Nat I C) ∧ (@Ne Nat I D) ∧ (@Ne Nat C D)) →
      wpAny (model prog w) A (eval elt (compEnvC scope cl C env)) (CompEnd h₀ L m { s with heap := h, toks := tk } I oI C oC D (lst ys) S (fun y news' => Inv (i + 1) (ys ++ [y]) news')) E' { s with heap := h, toks := tk })
    (fin : ∀ ys news, Inv n ys news → Fin ys news) : ∀ (k i : Nat) (ys : List Value) (news : Led), i + k = n → Inv i ys news → CompRest prog w A h₀ L m env elt x scope cl s S P Fin k i ys news := by
  intro k
  induction k with
  | zero => intro i ys news hi hI; exact CompRest.zero (fin _ _ (by rw [← hi]; exact hI))
  | succ k ih =>
    intro i ys news hi hI
    refine CompRest.succ fun v I oI C oC D m₂ h tk E' hv a1 a2 a4 a5 a6 a7 => ?_
    refine wpAny_mono (turn i ys news v (by omega) hv hI I oI C oC D m₂ h tk E' a1 a2 a4 a5 a6 a7) (fun y s₂ hs => ?_) fun _ _ e => e
    obtain ⟨h', tk', news', e, F, N, off, hS, r⟩ := hs
    exact ⟨h', tk', news', e, F, N, off, hS, ih (i + 1) _ _ (by omega) r⟩
end
end Mine

end
section
set_option maxRecDepth 100000
set_option maxHeartbeats 8000000
namespace Mine
open_top hd for PySem.Challenge.rw_nb0143_01
end Mine

end
section
set_option maxRecDepth 100000
set_option maxHeartbeats 8000000
namespace Mine
theorem parse257_ok (w : World) (t : List Nat) (tk : Tok) (news : Led) (ht : t.length ≤ 100000) :
    CallOk PySem.Challenge.rw_nb0143_01.row.prog w (Mine.hd.heap_39 w.params) 46 [.str (S (opening ++ t)) tk] 2 8 news
      (fun r news' => news' = news ∧ ∃ tk', r = .str (S (rd t)) tk') := by
  k_fill
  refine callOk_of_body (dep := 1) (uni := 5) [(Str.ofString "resp", _)] rfl rfl (fun _ => BindsTo.of_eq rfl) (locs rfl) ?_ rfl rfl rfl (by decide)
  have h3 : (Txt.slice (S (opening ++ t)) none (some 3) != Str.ofString "257") = false := by
    rw [slice_to (by decide) (by simp [opening]; omega), S_lit (s := "257") (l := [50, 53, 55]) rfl]; simp [opening]
  have h5 : (Txt.slice (S (opening ++ t)) (some 3) (some 5) != Str.ofString " \"") = false := by
    rw [slice_mid (by decide) (by decide) (by simp [opening]; omega), S_lit (s := " \"") (l := [32, 34]) rfl]; simp [opening]
  have hl : (S (opening ++ t)).length = t.length + 5 := by rw [S_len]; simp [opening]
  generalize hR : S (opening ++ t) = R at *
  intro p loose mean mg mb dp un gd outer A₀ base g L s B F X N hlt T hd hu
  repeat' (first | ((fail_if_success (with_reducible show wpAny _ _ (exec (Stmt.While _ _ _ _) _) _ _ _)); first | (k_unfold; (try dsimp only)) | walk1 | (dsimp only; walk1) | (leave1; walk_say "STEP leave1"; try dsimp only)) | fail "no step")
  rename Fr _ _ _ _ => F'; rename News _ _ _ _ => N'
  refine ksw_while (σ := Int × Str × Tok × Tok) (fun _ => news) (fun c => [(Str.ofString "i", .int c.1 c.2.2.1), (Str.ofString "dirname", .str c.2.1 c.2.2.2)]) (fun _ => True) [Str.ofString "c"]
    (fun c => PInv t c.1 c.2.1) (fun c => (t.length + 5 - c.1).toNat) (5, _, _, _) F' N' trivial (by kst_all) ⟨Int.le_refl _, by dsimp only; omega, Int.ofNat_le.mpr (by decide : (Str.ofString "").length ≤ 5), by show (Str.ofString "").cps.toList ++ rd t = rd t; rw [show Str.ofString "" = S [] from S_lit rfl, S_cps]; rfl⟩ ?_ PassesOwn.never
  rintro ⟨i, d, ti, td⟩ u h tk _ hI kF kN
  dsimp only [kstB] at hI kF kN
  obtain ⟨h1, h2, h4, h6⟩ := id hI
  have h7 : d.length ≤ 200000 := by omega
  k_steps
  all_goals (try dsimp only)
  all_goals first
    | exact Ends.intro (by assumption) (by assumption) ⟨rfl, td, congrArg (Value.str · td) (PInv.last hR hI (by assumption) (by assumption) (by assumption))⟩
    | exact Ends.intro (by assumption) (by assumption) ⟨rfl, td, congrArg (Value.str · td) (PInv.shut hR hI (by assumption) (by assumption) (by assumption) (by assumption))⟩
    | exact Ends.intro (by assumption) (by assumption) ⟨rfl, td, congrArg (Value.str · td) (PInv.out hR hI (by assumption))⟩
    | exact ksw_end (_, _, _, _) (by assumption) (by assumption) (fun _ h => h) trivial (by kst_all) (by ksw_same) (PInv.quotes hR hI (by assumption) (by assumption) (by assumption) (by assumption)) (by dsimp only; omega)
    | exact ksw_end (_, _, _, _) (by assumption) (by assumption) (fun _ h => h) trivial (by kst_all) (by ksw_same) (PInv.char hR hI (by assumption) (by assumption)) (by dsimp only; omega)
end Mine

end
section
set_option maxRecDepth 100000
set_option maxHeartbeats 8000000
namespace Mine
section
local macro_rules | `(tactic| bits_by_make) => `(tactic| with_reducible assumption)
theorem div3_ok (w : World) (dep uni : Nat) (a12 a3 b b1 b2 n : Int) (t1 t2 t3 t4 t5 t6 : Tok) (news : Led) (hp : Pre3 a12 a3 b b1 b2 n)
    (IH : ∀ a b, Pre2 a b n → ∀ news ta tb tn, CallOk PySem.Challenge.rw_nb0143_01.row.prog w (Mine.hd.heap_39 w.params) 53 [.int a ta, .int b tb, .int n tn] dep uni news (DivPost a b news)) :
    CallOk PySem.Challenge.rw_nb0143_01.row.prog w (Mine.hd.heap_39 w.params) 60 [.int a12 t1, .int a3 t2, .int b t3, .int b1 t4, .int b2 t5, .int n t6] (dep + 1) (uni + 3) news
      (DivPost (a12 * 2 ^ n.toNat + a3) b news) := by
  k_fill
  refine callOk_of_body (dep := dep) (uni := uni) [(Str.ofString "a12", _), (Str.ofString "a3", _), (Str.ofString "b", _), (Str.ofString "b1", _), (Str.ofString "b2", _), (Str.ofString "n", _)] rfl rfl (fun _ => BindsTo.of_eq rfl) (locs rfl) ?_ rfl rfl rfl (by decide)
  intro p loose mean mg mb dp un gd outer A₀ base g L s B F X N hlt T hd hu
  have hbp := hp.bpos
  have n0 := hp.n0
  have n1 := hp.n1
  obtain ⟨hb1, hb2, hbb, hba⟩ := hp.bits
  repeat' (first | ((fail_if_success (with_reducible show wpAny _ _ (exec (Stmt.While _ _ _ _) _) _ _ _)); (fail_if_success (with_reducible show wpAny _ _ (call (Value.ref _) _) _ _ _)); first | (k_unfold; (try dsimp only)) | walk1 | (dsimp only; walk1) | (leave1; walk_say "STEP leave1"; try dsimp only)) | fail "no step")
  rotate_left
  · refine CallOk.use (IH a12 b1 (hp.two (by assumption)) _ _ _ _) B (by assumption) X (by assumption) T rfl hd hu ?_
    rintro r9 news9 h9 tk9 F9 N9 ⟨ad, q, rr, u1, u2, rfl, rfl, hl9, e1, e2, e3⟩
    obtain ⟨hq, hr⟩ := divBits hp.b1pos hp.a0 hba e1 e2 e3
    repeat' (first | ((fail_if_success (with_reducible show wpAny _ _ (exec (Stmt.While _ _ _ _) _) _ _ _)); (fail_if_success (with_reducible show wpAny _ _ (call (Value.ref _) _) _ _ _)); first | (k_unfold; (try dsimp only)) | walk1 | (dsimp only; walk1) | (leave1; walk_say "STEP leave1"; try dsimp only)) | fail "no step")
    rename Fr _ _ _ _ => F'; rename News _ _ _ _ => N'
    refine ksw_while (σ := Int × Int × Tok × Tok) (fun _ => news) (fun c => [(Str.ofString "q", .int c.1 c.2.2.1), (Str.ofString "r", .int c.2.1 c.2.2.2)]) (fun _ => True) []
      (fun c => c.1 * b + c.2.1 = a12 * 2 ^ n.toNat + a3 ∧ c.2.1 < b) (fun c => (-c.2.1).toNat) (_, _, _, _) F' (fun p hp => N' p (.tail _ hp)) trivial (by kst_all) ⟨hp.start e1 e2, hp.start2 e1 e2 e3⟩ ?_ PassesOwn.never
    rintro ⟨q, r, tq, tr⟩ u h tk _ ⟨e1, e2⟩ kF kN
    dsimp only [kstB] at e1 e2 kF kN
    k_steps
    all_goals (try dsimp only)
    all_goals first
      | exact Ends.intro (by assumption) (by assumption) ⟨_, q, r, tq, tr, rfl, rfl, by assumption, e1, by omega, e2⟩
      | exact ksw_end (_, _, _, _) (by assumption) (by assumption) (fun _ h => h) trivial (by kst_all) (by ksw_same) ⟨by dsimp only; rw [← e1, Int.sub_mul]; omega, by dsimp only; omega⟩ (by dsimp only; omega)
  · obtain ⟨e1, e2⟩ := hp.start1 (by assumption)
    rename Fr _ _ _ _ => F'; rename News _ _ _ _ => N'
    refine ksw_while (σ := Int × Int × Tok × Tok) (fun _ => news) (fun c => [(Str.ofString "q", .int c.1 c.2.2.1), (Str.ofString "r", .int c.2.1 c.2.2.2)]) (fun _ => True) []
      (fun c => c.1 * b + c.2.1 = a12 * 2 ^ n.toNat + a3 ∧ c.2.1 < b) (fun c => (-c.2.1).toNat) (_, _, _, _) F' (fun p hp => N' p (.tail _ hp)) trivial (by kst_all) ⟨hp.start e2 e1, hp.less rfl (hp.start e2 e1)⟩ ?_ PassesOwn.never
    rintro ⟨q, r, tq, tr⟩ u h tk _ ⟨e1, e2⟩ kF kN
    dsimp only [kstB] at e1 e2 kF kN
    k_steps
    all_goals (try dsimp only)
    all_goals first
      | exact Ends.intro (by assumption) (by assumption) ⟨_, q, r, tq, tr, rfl, rfl, by assumption, e1, by omega, e2⟩
      | exact ksw_end (_, _, _, _) (by assumption) (by assumption) (fun _ h => h) trivial (by kst_all) (by ksw_same) ⟨by dsimp only; rw [← e1, Int.sub_mul]; omega, by dsimp only; omega⟩ (by dsimp only; omega)
end
end Mine

end
section
set_option maxRecDepth 100000
set_option maxHeartbeats 8000000
namespace Mine
section
local macro_rules | `(tactic| bits_by_make) => `(tactic| with_reducible assumption)
local macro_rules | `(tactic| walk_at "call builtin:divmod") => `(tactic| ((with_reducible show wpAny _ _ (call (Value.builtin _) [Value.int _ _, Value.int _ _]) _ _ _); refine divmod_N (by assumption) (by assumption) (by assumption) ?_ (Or.inl (by assumption)); intro _ _ _))
local macro_rules | `(tactic| walk_at "binaryOp LShift int int") => `(tactic| ((with_reducible refine' shl_any ?k1 ?k2 ?k3 ?k4 ?_); (case k1 => first | assumption | omega); (case k2 => first | assumption | omega); (case k3 => bits_by_make); (case k4 => first | decide | omega)))
local macro_rules | `(tactic| walk_at "binaryOp LShift int int") => `(tactic| ((with_reducible refine shl_one ?k1 ?k2 ?_); (case k1 => first | assumption | omega); (case k2 => first | assumption | omega)))
local macro_rules | `(tactic| walk_at "inplaceOp LShift int int") => `(tactic| ((with_reducible refine' ishl_one ?k3 ?k4 ?_); (case k3 => bits_by_make); (case k4 => first | decide | omega)))
local macro_rules | `(tactic| walk_at "binaryOp RShift int int") => `(tactic| ((with_reducible refine shr_any ?k1 ?_); (case k1 => first | assumption | omega)))
local macro_rules | `(tactic| walk_at "binaryOp RShift int int") => `(tactic| (with_reducible refine shr_one ?_))
local macro_rules | `(tactic| walk_at "inplaceOp RShift int int") => `(tactic| (with_reducible refine ishr_one ?_))
local macro_rules | `(tactic| walk_at "binaryOp BitAnd int int") => `(tactic| (with_reducible refine and_mask ?_))
local macro_rules | `(tactic| walk_at "binaryOp BitAnd int int") => `(tactic| (with_reducible refine and_one ?_))
local macro_rules | `(tactic| walk_at "binaryOp BitOr int int") => `(tactic| ((with_reducible refine or_shifted ?k1 ?k2 ?k3 ?_); (case k1 => assumption); (case k2 => assumption); (case k3 => assumption)))
theorem div2_ok (w : World) : ∀ (k : Nat) (a b n : Int), Pre2 a b n → n ≤ 2000 * 2 ^ k → ∀ (news : Led) (ta tb tn : Tok),
    CallOk PySem.Challenge.rw_nb0143_01.row.prog w (Mine.hd.heap_39 w.params) 53 [.int a ta, .int b tb, .int n tn] (2 * k + 2) (6 * k + 8) news (DivPost a b news) := by
  k_fill
  intro k
  induction k with
  | zero =>
    intro a b n hp hn news ta tb tn
    refine callOk_of_body (dep := 1) (uni := 5) [(Str.ofString "a", _), (Str.ofString "b", _), (Str.ofString "n", _)] rfl rfl (fun _ => BindsTo.of_eq rfl) (locs rfl) ?_ rfl rfl rfl (by decide)
    intro p loose mean mg mb dp un gd outer A₀ base g L s B F X N hlt T hd hu
    have hb0 := hp.bne
    have hpy := hp.py
    have hbits : (Builtin.Int.intBits a : Int) - n ≤ 4000 := hp.small hn
    k_steps
    all_goals (try dsimp only)
    exact Ends.intro (by assumption) (by assumption) (divPost_div hp fun p hp => Heap.lt_size (N p hp).1)
  | succ k ih =>
    intro a b n hp hn news ta tb tn
    refine callOk_of_body (dep := 2 * k + 3) (uni := 6 * k + 11) [(Str.ofString "a", _), (Str.ofString "b", _), (Str.ofString "n", _)] rfl rfl (fun _ => BindsTo.of_eq rfl) (locs rfl) ?_ rfl rfl rfl (by decide)
    intro p loose mean mg mb dp un gd outer A₀ base g L s B F X N hlt T hd hu
    have hb0 := hp.bne
    have hpy := hp.py
    have n0 := hp.n0
    have n1 := hp.n1
    have h2n := hp.twice
    obtain ⟨hba, hbb⟩ := hp.bits
    have hk : (2000 : Int) * 2 ^ (k + 1) = 2 * (2000 * 2 ^ k) := by rw [Int.pow_succ]; omega
    rw [hk] at hn
    repeat' (first | ((fail_if_success (with_reducible show wpAny _ _ (call (Value.ref _) _) _ _ _)); first | (k_unfold; (try dsimp only)) | walk1 | (dsimp only; walk1) | (leave1; walk_say "STEP leave1"; try dsimp only)) | fail "no step")
    · exact Ends.intro (by assumption) (by assumption) (divPost_div hp fun p hp => Heap.lt_size (N p hp).1)
    · have ho : n % 2 ≠ 0 := by assumption
      have hq := hp.pad ho
      have hhalf : (n + 1) / 2 ≤ 2000 * 2 ^ k := by omega
      have hev : ((n + 1)) % 2 = 0 := by omega
      have h4 : 2 ≤ (n + 1) := by omega
      obtain ⟨hqa, hqb⟩ := hq.bits
      refine CallOk.use (div3_ok w _ _ _ _ _ _ _ _ _ _ _ _ _ _ _ (hq.first hev h4) (fun a b hp => ih a b _ hp hhalf)) B (by assumption) X (by assumption) T rfl hd hu ?_
      rintro r9 news9 h9 tk9 F9 N9 ⟨ad, q1, r1, u1, u2, rfl, rfl, hl9, e1, e2, e3⟩
      repeat' (first | ((fail_if_success (with_reducible show wpAny _ _ (call (Value.ref _) _) _ _ _)); first | (k_unfold; (try dsimp only)) | walk1 | (dsimp only; walk1) | (leave1; walk_say "STEP leave1"; try dsimp only)) | fail "no step")
      refine CallOk.use (div3_ok w _ _ _ _ _ _ _ _ _ _ _ _ _ _ _ (hq.second hev h4 e2 e3) (fun a b hp => ih a b _ hp hhalf)) B (by assumption) X (by assumption) T rfl hd hu ?_
      rintro r8 news8 h8 tk8 F8 N8 ⟨ad2, q2, r2, v1, v2, rfl, rfl, hl8, f1, f2, f3⟩
      obtain ⟨g1, g2, g3, g4⟩ := hq.join hev e1 e2 e3 f1 f2 f3
      have hq1 := hq.bitsQ hev e1 e2 e3
      k_steps
      all_goals try (exfalso; omega)
      obtain ⟨g5, g6, g7⟩ := unpad g4 f2 f3
      rename News _ _ _ _ => N'
      exact Ends.intro (by assumption) (led_sub N' (fun p hp => .tail _ (.tail _ (.tail _ hp)))) ⟨_, _, _, _, _, rfl, rfl, fun p hp => Nat.lt_trans (hl9 p (.tail _ hp)) (by omega), g5, g6, g7⟩
    · have ho : n % 2 = 0 := by assumption
      have hhalf : n / 2 ≤ 2000 * 2 ^ k := by omega
      have hev : (n) % 2 = 0 := by omega
      have h4 : 2 ≤ n := by omega
      obtain ⟨hqa, hqb⟩ := hp.bits
      refine CallOk.use (div3_ok w _ _ _ _ _ _ _ _ _ _ _ _ _ _ _ (hp.first hev h4) (fun a b hp => ih a b _ hp hhalf)) B (by assumption) X (by assumption) T rfl hd hu ?_
      rintro r9 news9 h9 tk9 F9 N9 ⟨ad, q1, r1, u1, u2, rfl, rfl, hl9, e1, e2, e3⟩
      repeat' (first | ((fail_if_success (with_reducible show wpAny _ _ (call (Value.ref _) _) _ _ _)); first | (k_unfold; (try dsimp only)) | walk1 | (dsimp only; walk1) | (leave1; walk_say "STEP leave1"; try dsimp only)) | fail "no step")
      refine CallOk.use (div3_ok w _ _ _ _ _ _ _ _ _ _ _ _ _ _ _ (hp.second hev h4 e2 e3) (fun a b hp => ih a b _ hp hhalf)) B (by assumption) X (by assumption) T rfl hd hu ?_
      rintro r8 news8 h8 tk8 F8 N8 ⟨ad2, q2, r2, v1, v2, rfl, rfl, hl8, f1, f2, f3⟩
      obtain ⟨g1, g2, g3, g4⟩ := hp.join hev e1 e2 e3 f1 f2 f3
      have hq1 := hp.bitsQ hev e1 e2 e3
      k_steps
      all_goals try (exfalso; omega)
      rename News _ _ _ _ => N'
      exact Ends.intro (by assumption) (led_sub N' (fun p hp => .tail _ (.tail _ (.tail _ hp)))) ⟨_, _, _, _, _, rfl, rfl, fun p hp => Nat.lt_trans (hl9 p (.tail _ hp)) (by omega), g4, f2, f3⟩
end
end Mine

end
section
set_option maxRecDepth 100000
set_option maxHeartbeats 8000000
namespace Mine
section
local macro_rules | `(tactic| bits_by_make) => `(tactic| with_reducible assumption)
local macro_rules | `(tactic| bits_by_make) => `(tactic| ((with_reducible apply bits_ediv_pow); bits_by_make))
local macro_rules | `(tactic| walk_at "binaryOp BitXor int int") => `(tactic| ((with_reducible refine xor_rest ?k1 ?_); (case k1 => assumption)))
local macro_rules | `(tactic| walk_at "call builtin:divmod") => `(tactic| ((with_reducible show wpAny _ _ (call (Value.builtin _) [Value.int _ _, Value.int _ _]) _ _ _); refine divmod_N (by assumption) (by assumption) (by assumption) ?_ (Or.inl (by assumption)); intro _ _ _))
local macro_rules | `(tactic| walk_at "binaryOp LShift int int") => `(tactic| ((with_reducible refine' shl_any ?k1 ?k2 ?k3 ?k4 ?_); (case k1 => first | assumption | omega); (case k2 => first | assumption | omega); (case k3 => bits_by_make); (case k4 => first | decide | omega)))
local macro_rules | `(tactic| walk_at "binaryOp LShift int int") => `(tactic| ((with_reducible refine shl_one ?k1 ?k2 ?_); (case k1 => first | assumption | omega); (case k2 => first | assumption | omega)))
local macro_rules | `(tactic| walk_at "inplaceOp LShift int int") => `(tactic| ((with_reducible refine' ishl_one ?k3 ?k4 ?_); (case k3 => bits_by_make); (case k4 => first | decide | omega)))
local macro_rules | `(tactic| walk_at "binaryOp RShift int int") => `(tactic| ((with_reducible refine shr_any ?k1 ?_); (case k1 => first | assumption | omega)))
local macro_rules | `(tactic| walk_at "binaryOp RShift int int") => `(tactic| (with_reducible refine shr_one ?_))
local macro_rules | `(tactic| walk_at "inplaceOp RShift int int") => `(tactic| (with_reducible refine ishr_one ?_))
local macro_rules | `(tactic| walk_at "binaryOp BitAnd int int") => `(tactic| (with_reducible refine and_mask ?_))
local macro_rules | `(tactic| walk_at "binaryOp BitAnd int int") => `(tactic| (with_reducible refine and_one ?_))
local macro_rules | `(tactic| walk_at "binaryOp BitOr int int") => `(tactic| ((with_reducible refine or_shifted ?k1 ?k2 ?k3 ?_); (case k1 => assumption); (case k2 => assumption); (case k3 => assumption)))
local macro_rules | `(tactic| k_all) => `(tactic| with_reducible assumption)
local macro_rules | `(tactic| k_mem) => `(tactic| first | with_reducible assumption | with_reducible exact List.mem_cons_self | (with_reducible refine List.mem_cons_of_mem _ ?_; with_reducible assumption))
local macro_rules | `(tactic| walk_at "eval Name") => `(tactic| (kc_free; (with_reducible refine' nameX_F ?N ?c ?m ?d ?_ ?a ?b); (case a => rfl); (case b => rfl); (case N => with_reducible assumption); (case c => rfl); (case m => (with_reducible refine List.mem_cons_of_mem _ ?_; with_reducible assumption)); (case d => with_reducible assumption)))
theorem inner_ok (w : World) {nm : Str} {params : Arguments} {body : List Stmt} {scope : Scope} (hdef : nested (Mine.hd.heap_39 w.params) 67 1 = some (nm, params, body, scope))
    {n : Int} {tn : Tok} (hn : 0 < n) (hn2 : n ≤ 10000) {lst ca ci cn f c : Addr} {oa oi on oc : Obj} {cvs : Array Value} {qual : Str} {tq : Tok} {doc pm ctv : Value} {REST : Led}
    (hf : (f, fnMade nm qual params body scope [(Str.ofString "n", cn), (Str.ofString "inner", ci), (Str.ofString "a_digits", ca)] doc pm c ctv) ∈ REST)
    (hc : (c, oc) ∈ REST) (hcd : oc.data = .fields cvs) (hcv : cvs[1]? = some (.str qual tq))
    (hca : (ca, oa) ∈ REST) (hoa : oa.data = .cell (some (.ref lst))) (hci : (ci, oi) ∈ REST) (hoi : oi.data = .cell (some (.ref f))) (hcn : (cn, on) ∈ REST) (hon : on.data = .cell (some (.int n tn)))
    (hl : ∀ p ∈ REST, p.1 ≠ lst) {len : Nat} (hm : n * (len : Int) ≤ 1000000) :
    ∀ (k : Nat) (x lo hi : Int) (tx tl th : Tok) (vs : List Value) (ns : List Int) (e : Nat), IntsAre vs ns → ns.length = len → In2 n x lo hi len k → Builtin.Int.intBits x ≤ 1000000 →
      CallOk PySem.Challenge.rw_nb0143_01.row.prog w (Mine.hd.heap_39 w.params) f [.int x tx, .int lo tl, .int hi th] (k + 2) (3 * k + 8) ((lst, listOf vs.toArray e) :: REST)
        (fun r news' => r = .none ∧ ∃ vs', news' = (lst, listOf vs'.toArray e) :: REST ∧ IntsAre vs' (laid n.toNat x ns lo hi)) := by
  k_fill
  have hdef' : nested (Mine.hd.heap_39 w.params) 67 1 = some _ := rfl
  rw [hdef'] at hdef
  cases hdef
  clear hdef'
  have hlen : (len : Int) ≤ 1000000 := by
    have : (len : Int) * 1 ≤ len * n := Int.mul_le_mul_of_nonneg_left (by omega) (by omega)
    rw [Int.mul_comm _ n] at this; omega
  intro k
  induction k with
  | zero =>
    intro x lo hi tx tl th vs ns e hi9 hlen9 hI hbx
    refine callOk_of_nest (dep := 1) (uni := 5) [(Str.ofString "x", _), (Str.ofString "L", _), (Str.ofString "R", _)] (.tail _ hf) (.tail _ hc) hcd hcv (fun _ => BindsTo.of_eq rfl) (locs rfl) ?_ rfl rfl rfl (by decide)
    intro p loose mean mg mb dp un gd outer A₀ base g L s B F X N hlt T hd hu
    obtain ⟨h0, h1, h2, h3, h4, h5⟩ := id hI
    have hC : CodeHd g 66 62 := codeHd_of_K X (by kernel_rfl)
    have hone : lo + 1 = hi := by omega
    · have hx1 : x < 2 ^ n.toNat := by rw [show (hi - lo).toNat = 1 by omega, Nat.mul_one] at h5; exact h5
      repeat' (first | ((fail_if_success (with_reducible show wpAny _ _ (call (Value.ref _) _) _ _ _)); first | (k_unfold; (try dsimp only)) | walk1 | (dsimp only; walk1) | (leave1; walk_say "STEP leave1"; try dsimp only)) | fail "no step")
      · exact Ends.intro (by assumption) (by assumption) ⟨rfl, _, rfl, by rw [← laid_one h0 hone (by omega) h4 hx1]; assumption⟩
      · exfalso; omega
  | succ k ih =>
    intro x lo hi tx tl th vs ns e hi9 hlen9 hI hbx
    refine callOk_of_nest (dep := k + 2) (uni := 3 * k + 8) [(Str.ofString "x", _), (Str.ofString "L", _), (Str.ofString "R", _)] (.tail _ hf) (.tail _ hc) hcd hcv (fun _ => BindsTo.of_eq rfl) (locs rfl) ?_ rfl rfl rfl (by decide)
    intro p loose mean mg mb dp un gd outer A₀ base g L s B F X N hlt T hd hu
    obtain ⟨h0, h1, h2, h3, h4, h5⟩ := id hI
    have hC : CodeHd g 66 62 := codeHd_of_K X (by kernel_rfl)
    by_cases hone : lo + 1 = hi
    · have hx1 : x < 2 ^ n.toNat := by rw [show (hi - lo).toNat = 1 by omega, Nat.mul_one] at h5; exact h5
      repeat' (first | ((fail_if_success (with_reducible show wpAny _ _ (call (Value.ref _) _) _ _ _)); first | (k_unfold; (try dsimp only)) | walk1 | (dsimp only; walk1) | (leave1; walk_say "STEP leave1"; try dsimp only)) | fail "no step")
      · exact Ends.intro (by assumption) (by assumption) ⟨rfl, _, rfl, by rw [← laid_one h0 hone (by omega) h4 hx1]; assumption⟩
      · exfalso; omega
    · obtain ⟨b1, b2, c1, a1, a2, I1, I2⟩ := hI.halves hn hone hm
      repeat' (first | ((fail_if_success (with_reducible show wpAny _ _ (call (Value.ref _) _) _ _ _)); first | (k_unfold; (try dsimp only)) | walk1 | (dsimp only; walk1) | (leave1; walk_say "STEP leave1"; try dsimp only)) | fail "no step")
      · exfalso; omega
      · refine CallOk.use (ih _ lo _ _ _ _ vs ns e hi9 hlen9 I1 (bits_emod_le h4 hbx)) B (by assumption) X (by assumption) T rfl hd hu ?_
        rintro r9 news9 h9 tk9 F9 N9 ⟨rfl, vs', rfl, hi2⟩
        repeat' (first | ((fail_if_success (with_reducible show wpAny _ _ (call (Value.ref _) _) _ _ _)); first | (k_unfold; (try dsimp only)) | walk1 | (dsimp only; walk1) | (leave1; walk_say "STEP leave1"; try dsimp only)) | fail "no step")
        refine CallOk.use (ih _ _ hi _ _ _ vs' _ e hi2 ((laid_len h0 a1 (by omega)).trans hlen9) I2 (bits_ediv_pow hbx)) B (by assumption) X (by assumption) T rfl hd hu ?_
        rintro r8 news8 h8 tk8 F8 N8 ⟨rfl, vs'', rfl, hi3⟩
        repeat' (first | ((fail_if_success (with_reducible show wpAny _ _ (call (Value.ref _) _) _ _ _)); first | (k_unfold; (try dsimp only)) | walk1 | (dsimp only; walk1) | (leave1; walk_say "STEP leave1"; try dsimp only)) | fail "no step")
        exact Ends.intro (by assumption) (by assumption) ⟨rfl, _, rfl, by rw [laid_two h0 a1 a2 (by omega) c1] at hi3; exact hi3⟩
end
end Mine

end
section
set_option maxRecDepth 100000
set_option maxHeartbeats 8000000
namespace Mine
abbrev pos62 : Pos := ⟨54, 4, 63, 28⟩
abbrev q62 : Str := (Str.ofString "_int2digits" ++ Str.ofString ".<locals>.") ++ Str.ofString "inner"
section
local macro_rules | `(tactic| bits_by_make) => `(tactic| with_reducible assumption)
local macro_rules | `(tactic| bits_by_make) => `(tactic| ((with_reducible apply bits_ediv_pow); bits_by_make))
local macro_rules | `(tactic| walk_at "binaryOp BitXor int int") => `(tactic| ((with_reducible refine xor_rest ?k1 ?_); (case k1 => assumption)))
local macro_rules | `(tactic| walk_at "call builtin:divmod") => `(tactic| ((with_reducible show wpAny _ _ (call (Value.builtin _) [Value.int _ _, Value.int _ _]) _ _ _); refine divmod_N (by assumption) (by assumption) (by assumption) ?_ (Or.inl (by assumption)); intro _ _ _))
local macro_rules | `(tactic| walk_at "binaryOp LShift int int") => `(tactic| ((with_reducible refine' shl_any ?k1 ?k2 ?k3 ?k4 ?_); (case k1 => first | assumption | omega); (case k2 => first | assumption | omega); (case k3 => bits_by_make); (case k4 => first | decide | omega)))
local macro_rules | `(tactic| walk_at "binaryOp LShift int int") => `(tactic| ((with_reducible refine shl_one ?k1 ?k2 ?_); (case k1 => first | assumption | omega); (case k2 => first | assumption | omega)))
local macro_rules | `(tactic| walk_at "inplaceOp LShift int int") => `(tactic| ((with_reducible refine' ishl_one ?k3 ?k4 ?_); (case k3 => bits_by_make); (case k4 => first | decide | omega)))
local macro_rules | `(tactic| walk_at "binaryOp RShift int int") => `(tactic| ((with_reducible refine shr_any ?k1 ?_); (case k1 => first | assumption | omega)))
local macro_rules | `(tactic| walk_at "binaryOp RShift int int") => `(tactic| (with_reducible refine shr_one ?_))
local macro_rules | `(tactic| walk_at "inplaceOp RShift int int") => `(tactic| (with_reducible refine ishr_one ?_))
local macro_rules | `(tactic| walk_at "binaryOp BitAnd int int") => `(tactic| (with_reducible refine and_mask ?_))
local macro_rules | `(tactic| walk_at "binaryOp BitAnd int int") => `(tactic| (with_reducible refine and_one ?_))
local macro_rules | `(tactic| walk_at "binaryOp BitOr int int") => `(tactic| ((with_reducible refine or_shifted ?k1 ?k2 ?k3 ?_); (case k1 => assumption); (case k2 => assumption); (case k3 => assumption)))
local macro_rules | `(tactic| k_all) => `(tactic| first | with_reducible assumption | (refine' allNe ?ka ?kb; (case ka => with_reducible assumption); (case kb => omega)))
theorem int2digits_ok (w : World) (a n : Int) (ta tn : Tok) (tb news : Led) (ha : 0 ≤ a) (hn : 0 < n) (hn2 : n ≤ 10000) (hb : Builtin.Int.intBits a ≤ 100000) (hc : (Builtin.Int.intBits a : Int) ≤ 1000 * n)
    (hT : Tab 62 pos62 q62 tb) (hne : ∀ p ∈ news, p.1 ≠ 62) :
    CallOk PySem.Challenge.rw_nb0143_01.row.prog w (Mine.hd.heap_39 w.params) 67 [.int a ta, .int n tn] 20 200 (tb ++ news)
      (DigPost 62 pos62 q62 n a tb news) := by
  k_fill
  refine callOk_of_bodyC (dep := 19) (uni := 197) [(Str.ofString "a", _), (Str.ofString "n", _)] rfl rfl (fun _ => BindsTo.of_eq rfl) rfl (by decide +kernel) ?_ rfl rfl rfl
  intro p loose mean mg mb dp un gd outer A₀ base g L s cells B F X N Y hlt T hd hu
  obtain ⟨o1, o2, o3, rfl, d1, d2, d3⟩ := CellsAre.three Y
  clear Y
  replace d1 : o1.data = .cell none := d1
  replace d2 : o2.data = .cell none := d2
  replace d3 : o3.data = .cell (some (.int n tn)) := d3
  replace F : Fr g L s.heap (fun y => if y = Str.ofString "a" then some (.int a ta) else none) := F
  simp only [List.cons_append, List.nil_append] at N
  have hC : CodeHd g 66 62 := codeHd_of_K X (by kernel_rfl)
  obtain ⟨hq0, hq1⟩ := cnt_bounds hn hc
  have hltn : ∀ p ∈ news, p.1 < L := fun p hp => hlt p (List.mem_append_right _ hp)
  have hfd := Int.fdiv_eq_ediv_of_nonneg ((Builtin.Int.intBits a : Int) + n - 1) (Int.le_of_lt hn)
  cases hT with
  | cold =>
    have h62 := ltN (hlt (62, _) (List.Mem.head _))
    clear hlt
    simp only [List.cons_append, List.nil_append] at N
    repeat' (first | ((fail_if_success (with_reducible show wpAny _ _ (call (Value.ref _) _) _ _ _)); first | (k_unfold; (try dsimp only)) | walk1 | (dsimp only; walk1) | (leave1; walk_say "STEP leave1"; try dsimp only)) | fail "no step")
    · rename News _ _ _ _ => N'
      rename IntsAre (List.flatten _) _ => i1
      rename List.length (List.flatten _) = _ => e1
      rename (0 ≤ _ → _ = _) => e3
      have hcn := e3 hq0
      rw [show ((0 + 1 : Nat) : Int) = 1 from rfl, Int.one_mul, hfd] at hcn
      have ha0 : a ≠ 0 := by assumption
      obtain ⟨hm, hI⟩ := cnt_facts ha hn hn2 hb ha0 hcn (by rw [hcn, ← hfd]; exact hq1)
      have N2 := led_pull2 N'
      refine' CallOk.use (inner_ok w rfl hn hn2 ?hf ?hc ?hcd ?hcv ?hca ?hoa ?hci ?hoi ?hcn ?hon ?hl hm 10 a 0 _ _ _ _ _ _ 0 i1 e1 hI (Nat.le_trans hb (by decide))) B ?F X N2 T rfl ?d ?u ?_
      case hf => exact List.Mem.head _
      case F => assumption
      case hc => exact .tail _ (List.Mem.head _)
      case hca => k_mem
      case hci => k_mem
      case hcn => k_mem
      case hcd => assumption
      case hcv => assumption
      case hoa => assumption
      case hoi => assumption
      case hon => assumption
      case hl => first | k_all | fail "k"
      case d => omega
      case u => omega
      rintro r9 news9 h9 tk9 F9 N9 ⟨rfl, vs', rfl, hi2⟩
      rw [laid_all e1] at hi2
      repeat' (first | ((fail_if_success (with_reducible show wpAny _ _ (call (Value.ref _) _) _ _ _)); first | (k_unfold; (try dsimp only)) | walk1 | (dsimp only; walk1) | (leave1; walk_say "STEP leave1"; try dsimp only)) | fail "no step")
      refine Ends.intro (by assumption) (led_of (by assumption) sub_cold) ⟨_, vs', _, rfl, .warm (by assumption) (by assumption) (by refine neN ?_; omega), Fresher.cold (by omega) hltn (by omega), rfl, (by
        simp only [List.cons_append, List.nil_append]
        first | k_all | fail "k"), (by
        simp only [List.cons_append, List.nil_append]
        refine List.forall_mem_cons.mpr ⟨ltN (by omega), allLt' hltn (by omega)⟩), ?_⟩
      unfold digitsOf
      rw [← hcn, Int.toNat_natCast]
      exact hi2
    · rename News _ _ _ _ => N'
      rename IntsAre (List.flatten _) _ => i1
      have ha0 : a = 0 := by assumption
      subst ha0
      dsimp only
      refine Ends.intro (by assumption) (led_of N' sub_cold0) ⟨_, _, _, rfl, .warm (by assumption) (by assumption) (by refine neN ?_; omega), Fresher.cold (by omega) hltn (by omega), rfl, (by
        simp only [List.cons_append, List.nil_append]
        first | k_all | fail "k"), (by
        simp only [List.cons_append, List.nil_append]
        refine List.forall_mem_cons.mpr ⟨ltN (by omega), allLt' hltn (by omega)⟩), ?_⟩
      rw [digits_zero hn]
      simp only [hfd, cnt_zero hn] at i1 ⊢
      exact i1
  | @warm c oc cvs tq hcd hcv hcP =>
    have h62 := ltN (hlt (62, _) (List.Mem.head _))
    have hcL := ltN (hlt (c, _) (.tail _ (List.Mem.head _)))
    replace hcP := neN hcP
    clear hlt
    simp only [List.cons_append, List.nil_append] at N
    repeat' (first | ((fail_if_success (with_reducible show wpAny _ _ (call (Value.ref _) _) _ _ _)); first | (k_unfold; (try dsimp only)) | walk1 | (dsimp only; walk1) | (leave1; walk_say "STEP leave1"; try dsimp only)) | fail "no step")
    · rename News _ _ _ _ => N'
      rename IntsAre (List.flatten _) _ => i1
      rename List.length (List.flatten _) = _ => e1
      rename (0 ≤ _ → _ = _) => e3
      have hcn := e3 hq0
      rw [show ((0 + 1 : Nat) : Int) = 1 from rfl, Int.one_mul, hfd] at hcn
      have ha0 : a ≠ 0 := by assumption
      obtain ⟨hm, hI⟩ := cnt_facts ha hn hn2 hb ha0 hcn (by rw [hcn, ← hfd]; exact hq1)
      have N2 := led_pull1 N'
      refine' CallOk.use (inner_ok w rfl hn hn2 ?hf ?hc ?hcd ?hcv ?hca ?hoa ?hci ?hoi ?hcn ?hon ?hl hm 10 a 0 _ _ _ _ _ _ 0 i1 e1 hI (Nat.le_trans hb (by decide))) B ?F X N2 T rfl ?d ?u ?_
      case hf => exact List.Mem.head _
      case F => assumption
      case hc => k_mem
      case hca => k_mem
      case hci => k_mem
      case hcn => k_mem
      case hcd => assumption
      case hcv => assumption
      case hoa => assumption
      case hoi => assumption
      case hon => assumption
      case hl => first | k_all | fail "k"
      case d => omega
      case u => omega
      rintro r9 news9 h9 tk9 F9 N9 ⟨rfl, vs', rfl, hi2⟩
      rw [laid_all e1] at hi2
      repeat' (first | ((fail_if_success (with_reducible show wpAny _ _ (call (Value.ref _) _) _ _ _)); first | (k_unfold; (try dsimp only)) | walk1 | (dsimp only; walk1) | (leave1; walk_say "STEP leave1"; try dsimp only)) | fail "no step")
      refine Ends.intro (by assumption) (led_of (by assumption) sub_warm) ⟨_, vs', _, rfl, .warm hcd hcv hcP, .refl, rfl, (by
        simp only [List.cons_append, List.nil_append]
        first | k_all | fail "k"), (by
        simp only [List.cons_append, List.nil_append]
        refine List.forall_mem_cons.mpr ⟨ltN (by omega), List.forall_mem_cons.mpr ⟨ltN (by omega), allLt' hltn (by omega)⟩⟩), ?_⟩
      unfold digitsOf
      rw [← hcn, Int.toNat_natCast]
      exact hi2
    · rename News _ _ _ _ => N'
      rename IntsAre (List.flatten _) _ => i1
      have ha0 : a = 0 := by assumption
      subst ha0
      dsimp only
      refine Ends.intro (by assumption) (led_of N' sub_warm0) ⟨_, _, _, rfl, .warm hcd hcv hcP, .refl, rfl, (by
        simp only [List.cons_append, List.nil_append]
        first | k_all | fail "k"), (by
        simp only [List.cons_append, List.nil_append]
        refine List.forall_mem_cons.mpr ⟨ltN (by omega), List.forall_mem_cons.mpr ⟨ltN (by omega), allLt' hltn (by omega)⟩⟩), ?_⟩
      rw [digits_zero hn]
      simp only [hfd, cnt_zero hn] at i1 ⊢
      exact i1
end
end Mine

end
section
set_option maxRecDepth 100000
set_option maxHeartbeats 8000000
namespace Mine
section
local macro_rules | `(tactic| bits_by_make) => `(tactic| with_reducible assumption)
local macro_rules | `(tactic| bits_by_make) => `(tactic| ((with_reducible apply bits_ediv_pow); bits_by_make))
local macro_rules | `(tactic| walk_at "binaryOp BitXor int int") => `(tactic| ((with_reducible refine xor_rest ?k1 ?_); (case k1 => assumption)))
local macro_rules | `(tactic| walk_at "call builtin:divmod") => `(tactic| ((with_reducible show wpAny _ _ (call (Value.builtin _) [Value.int _ _, Value.int _ _]) _ _ _); refine divmod_N (by assumption) (by assumption) (by assumption) ?_ (Or.inl (by assumption)); intro _ _ _))
local macro_rules | `(tactic| walk_at "binaryOp LShift int int") => `(tactic| ((with_reducible refine' shl_any ?k1 ?k2 ?k3 ?k4 ?_); (case k1 => first | assumption | omega); (case k2 => first | assumption | omega); (case k3 => bits_by_make); (case k4 => first | decide | omega)))
local macro_rules | `(tactic| walk_at "binaryOp LShift int int") => `(tactic| ((with_reducible refine shl_one ?k1 ?k2 ?_); (case k1 => first | assumption | omega); (case k2 => first | assumption | omega)))
local macro_rules | `(tactic| walk_at "inplaceOp LShift int int") => `(tactic| ((with_reducible refine' ishl_one ?k3 ?k4 ?_); (case k3 => bits_by_make); (case k4 => first | decide | omega)))
local macro_rules | `(tactic| walk_at "binaryOp RShift int int") => `(tactic| ((with_reducible refine shr_any ?k1 ?_); (case k1 => first | assumption | omega)))
local macro_rules | `(tactic| walk_at "binaryOp RShift int int") => `(tactic| (with_reducible refine shr_one ?_))
local macro_rules | `(tactic| walk_at "inplaceOp RShift int int") => `(tactic| (with_reducible refine ishr_one ?_))
local macro_rules | `(tactic| walk_at "binaryOp BitAnd int int") => `(tactic| (with_reducible refine and_mask ?_))
local macro_rules | `(tactic| walk_at "binaryOp BitAnd int int") => `(tactic| (with_reducible refine and_one ?_))
local macro_rules | `(tactic| walk_at "binaryOp BitOr int int") => `(tactic| ((with_reducible refine or_shifted ?k1 ?k2 ?k3 ?_); (case k1 => assumption); (case k2 => assumption); (case k3 => assumption)))
local macro_rules | `(tactic| k_all) => `(tactic| with_reducible assumption)
local macro_rules | `(tactic| k_mem) => `(tactic| with_reducible assumption)
local macro_rules | `(tactic| walk_at "eval Name") => `(tactic| (kc_free; (with_reducible refine' nameX_F ?N ?c ?m ?d ?_ ?a ?b); (case a => rfl); (case b => rfl); (case N => with_reducible assumption); (case c => rfl); (case m => with_reducible assumption); (case d => with_reducible assumption)))
theorem innerD_ok (w : World) {nm : Str} {params : Arguments} {body : List Stmt} {scope : Scope} (hdef : nested (Mine.hd.heap_39 w.params) 74 0 = some (nm, params, body, scope))
    {n : Int} {tn : Tok} (hn : 0 < n) (hn2 : n ≤ 10000) {lst ca ci cn f c : Addr} {oa oi on oc : Obj} {cvs : Array Value} {qual : Str} {tq : Tok} {doc pm ctv : Value} {REST : Led}
    (hf : (f, fnMade nm qual params body scope [(Str.ofString "n", cn), (Str.ofString "inner", ci), (Str.ofString "digits", ca)] doc pm c ctv) ∈ REST)
    (hc : (c, oc) ∈ REST) (hcd : oc.data = .fields cvs) (hcv : cvs[1]? = some (.str qual tq))
    (hca : (ca, oa) ∈ REST) (hoa : oa.data = .cell (some (.ref lst))) (hci : (ci, oi) ∈ REST) (hoi : oi.data = .cell (some (.ref f))) (hcn : (cn, on) ∈ REST) (hon : on.data = .cell (some (.int n tn)))
    {vs : List Value} {ns : List Int} {e : Nat} (hl : (lst, listOf vs.toArray e) ∈ REST) (hi9 : IntsAre vs ns) (hS : Small n.toNat ns) (hm : n * (ns.length : Int) ≤ 1000000) :
    ∀ (k : Nat) (lo hi : Int) (tl th : Tok), In1 n lo hi ns.length k →
      CallOk PySem.Challenge.rw_nb0143_01.row.prog w (Mine.hd.heap_39 w.params) f [.int lo tl, .int hi th] (k + 2) (3 * k + 8) REST
        (fun r news' => news' = REST ∧ ∃ t, r = .int (val n.toNat (sl ns lo hi)) t) := by
  k_fill
  have hdef' : nested (Mine.hd.heap_39 w.params) 74 0 = some _ := rfl
  rw [hdef'] at hdef
  cases hdef
  clear hdef'
  have hlen : (ns.length : Int) ≤ 1000000 := by
    have : (ns.length : Int) * 1 ≤ ns.length * n := Int.mul_le_mul_of_nonneg_left (by omega) (by omega)
    rw [Int.mul_comm _ n] at this; omega
  intro k
  induction k with
  | zero =>
    intro lo hi tl th hI
    refine callOk_of_nest (dep := 1) (uni := 5) [(Str.ofString "L", _), (Str.ofString "R", _)] hf hc hcd hcv (fun _ => BindsTo.of_eq rfl) (locs rfl) ?_ rfl rfl rfl (by decide)
    intro p loose mean mg mb dp un gd outer A₀ base g L s B F X N hlt T hd hu
    obtain ⟨h0, h1, h2, h3⟩ := id hI
    have hC : CodeHd g 73 69 := codeHd_of_K X (by kernel_rfl)
    have hone : lo + 1 = hi := by omega
    repeat' (first | ((fail_if_success (with_reducible show wpAny _ _ (call (Value.ref _) _) _ _ _)); first | (k_unfold; (try dsimp only)) | walk1 | (dsimp only; walk1) | (leave1; walk_say "STEP leave1"; try dsimp only)) | fail "no step")
    · refine Ends.intro (by assumption) (by assumption) ⟨rfl, _, by rw [sl_one h0 hone h2, val_one]⟩
    · exfalso; omega
  | succ k ih =>
    intro lo hi tl th hI
    refine callOk_of_nest (dep := k + 2) (uni := 3 * k + 8) [(Str.ofString "L", _), (Str.ofString "R", _)] hf hc hcd hcv (fun _ => BindsTo.of_eq rfl) (locs rfl) ?_ rfl rfl rfl (by decide)
    intro p loose mean mg mb dp un gd outer A₀ base g L s B F X N hlt T hd hu
    obtain ⟨h0, h1, h2, h3⟩ := id hI
    have hC : CodeHd g 73 69 := codeHd_of_K X (by kernel_rfl)
    by_cases hone : lo + 1 = hi
    · repeat' (first | ((fail_if_success (with_reducible show wpAny _ _ (call (Value.ref _) _) _ _ _)); first | (k_unfold; (try dsimp only)) | walk1 | (dsimp only; walk1) | (leave1; walk_say "STEP leave1"; try dsimp only)) | fail "no step")
      · refine Ends.intro (by assumption) (by assumption) ⟨rfl, _, by rw [sl_one h0 hone h2, val_one]⟩
      · exfalso; omega
    · obtain ⟨b1, b2, c1, a1, a2, I1, I2⟩ := hI.halves hn hone hm
      have hv := val_bits (lo := (lo + hi) / 2) (hi := hi) hn hS (by omega) a2 (by omega) hm
      repeat' (first | ((fail_if_success (with_reducible show wpAny _ _ (call (Value.ref _) _) _ _ _)); first | (k_unfold; (try dsimp only)) | walk1 | (dsimp only; walk1) | (leave1; walk_say "STEP leave1"; try dsimp only)) | fail "no step")
      · exfalso; omega
      · refine CallOk.use (ih _ hi _ _ I2) B (by assumption) X (by assumption) T rfl hd hu ?_
        rintro r9 news9 h9 tk9 F9 N9 ⟨rfl, t9, rfl⟩
        repeat' (first | ((fail_if_success (with_reducible show wpAny _ _ (call (Value.ref _) _) _ _ _)); first | (k_unfold; (try dsimp only)) | walk1 | (dsimp only; walk1) | (leave1; walk_say "STEP leave1"; try dsimp only)) | fail "no step")
        refine CallOk.use (ih lo _ _ _ I1) B (by assumption) X (by assumption) T rfl hd hu ?_
        rintro r8 news8 h8 tk8 F8 N8 ⟨rfl, t8, rfl⟩
        repeat' (first | ((fail_if_success (with_reducible show wpAny _ _ (call (Value.ref _) _) _ _ _)); first | (k_unfold; (try dsimp only)) | walk1 | (dsimp only; walk1) | (leave1; walk_say "STEP leave1"; try dsimp only)) | fail "no step")
        refine Ends.intro (by assumption) (by assumption) ⟨rfl, _, by rw [val_two h0 a1 a2 (by omega) c1]⟩
end
end Mine

end
section
set_option maxRecDepth 100000
set_option maxHeartbeats 8000000
namespace Mine
abbrev pos69 : Pos := ⟨69, 4, 74, 55⟩
abbrev q69 : Str := (Str.ofString "_digits2int" ++ Str.ofString ".<locals>.") ++ Str.ofString "inner"
section
local macro_rules | `(tactic| bits_by_make) => `(tactic| with_reducible assumption)
local macro_rules | `(tactic| bits_by_make) => `(tactic| ((with_reducible apply bits_ediv_pow); bits_by_make))
local macro_rules | `(tactic| walk_at "binaryOp BitXor int int") => `(tactic| ((with_reducible refine xor_rest ?k1 ?_); (case k1 => assumption)))
local macro_rules | `(tactic| walk_at "call builtin:divmod") => `(tactic| ((with_reducible show wpAny _ _ (call (Value.builtin _) [Value.int _ _, Value.int _ _]) _ _ _); refine divmod_N (by assumption) (by assumption) (by assumption) ?_ (Or.inl (by assumption)); intro _ _ _))
local macro_rules | `(tactic| walk_at "binaryOp LShift int int") => `(tactic| ((with_reducible refine' shl_any ?k1 ?k2 ?k3 ?k4 ?_); (case k1 => first | assumption | omega); (case k2 => first | assumption | omega); (case k3 => bits_by_make); (case k4 => first | decide | omega)))
local macro_rules | `(tactic| walk_at "binaryOp LShift int int") => `(tactic| ((with_reducible refine shl_one ?k1 ?k2 ?_); (case k1 => first | assumption | omega); (case k2 => first | assumption | omega)))
local macro_rules | `(tactic| walk_at "inplaceOp LShift int int") => `(tactic| ((with_reducible refine' ishl_one ?k3 ?k4 ?_); (case k3 => bits_by_make); (case k4 => first | decide | omega)))
local macro_rules | `(tactic| walk_at "binaryOp RShift int int") => `(tactic| ((with_reducible refine shr_any ?k1 ?_); (case k1 => first | assumption | omega)))
local macro_rules | `(tactic| walk_at "binaryOp RShift int int") => `(tactic| (with_reducible refine shr_one ?_))
local macro_rules | `(tactic| walk_at "inplaceOp RShift int int") => `(tactic| (with_reducible refine ishr_one ?_))
local macro_rules | `(tactic| walk_at "binaryOp BitAnd int int") => `(tactic| (with_reducible refine and_mask ?_))
local macro_rules | `(tactic| walk_at "binaryOp BitAnd int int") => `(tactic| (with_reducible refine and_one ?_))
local macro_rules | `(tactic| walk_at "binaryOp BitOr int int") => `(tactic| ((with_reducible refine or_shifted ?k1 ?k2 ?k3 ?_); (case k1 => assumption); (case k2 => assumption); (case k3 => assumption)))
local macro_rules | `(tactic| k_all) => `(tactic| first | with_reducible assumption | (refine' allNe ?ka ?kb; (case ka => with_reducible assumption); (case kb => omega)))
local macro_rules | `(tactic| walk_at "truthy ref") => `(tactic| (refine' truthy_N ?N ?m ?i ?f ?_; (case N => with_reducible assumption); (case m => (repeat' (first | with_reducible assumption | (with_reducible refine List.mem_cons_of_mem _ ?_)))); (case i => assumption); (case f => omega)))
local macro_rules | `(tactic| walk_at "call builtin:len") => `(tactic| (refine' len_N ?N ?m ?i ?f ?_; (case N => with_reducible assumption); (case m => (repeat' (first | with_reducible assumption | (with_reducible refine List.mem_cons_of_mem _ ?_)))); (case i => assumption); (case f => omega)))
theorem digits2int_ok (w : World) {n : Int} {tn : Tok} {tb news : Led} {lst : Addr} {vs : List Value} {ns : List Int} {e : Nat} (hl : (lst, listOf vs.toArray e) ∈ news) (hi9 : IntsAre vs ns) (hn : 0 < n) (hn2 : n ≤ 10000) (hS : Small n.toNat ns) (hc : (ns.length : Int) ≤ 1000)
    (hm : n * (ns.length : Int) ≤ 1000000) (hT : Tab 69 pos69 q69 tb) (hne : ∀ p ∈ news, p.1 ≠ 69) :
    CallOk PySem.Challenge.rw_nb0143_01.row.prog w (Mine.hd.heap_39 w.params) 74 [.ref lst, .int n tn] 20 200 (tb ++ news)
      (fun r news' => ∃ tb' t, r = .int (val n.toNat ns) t ∧ Tab 69 pos69 q69 tb' ∧ Fresher tb tb' news ∧ news' = tb' ++ news) := by
  k_fill
  refine callOk_of_bodyC (dep := 19) (uni := 197) [(Str.ofString "digits", _), (Str.ofString "n", _)] rfl rfl (fun _ => BindsTo.of_eq rfl) rfl (by decide +kernel) ?_ rfl rfl rfl
  intro p loose mean mg mb dp un gd outer A₀ base g L s cells B F X N Y hlt T hd hu
  obtain ⟨o1, o2, o3, rfl, d1, d2, d3⟩ := CellsAre.three Y
  clear Y
  replace d1 : o1.data = .cell none := d1
  replace d2 : o2.data = .cell (some (.int n tn)) := d2
  replace d3 : o3.data = .cell (some (.ref lst)) := d3
  replace F : Fr g L s.heap (fun _ => none) := F
  simp only [List.cons_append, List.nil_append] at N
  have hC : CodeHd g 73 69 := codeHd_of_K X (by kernel_rfl)
  have hltn : ∀ p ∈ news, p.1 < L := fun p hp => hlt p (List.mem_append_right _ hp)
  cases hT with
  | cold =>
    have h69 := ltN (hlt (69, _) (List.Mem.head _))
    clear hlt
    simp only [List.cons_append, List.nil_append] at N
    repeat' (first | ((fail_if_success (with_reducible show wpAny _ _ (call (Value.ref _) _) _ _ _)); first | (k_unfold; (try dsimp only)) | walk1 | (dsimp only; walk1) | (leave1; walk_say "STEP leave1"; try dsimp only)) | fail "no step")
    · rename News _ _ _ _ => N'
      have hpos : 0 < ns.length := by first | assumption | (have := (by assumption : decide (0 < ns.length) = true); simpa using this)
      refine' CallOk.use (innerD_ok w rfl hn hn2 ?hf ?hc ?hcd ?hcv ?hca ?hoa ?hci ?hoi ?hcn ?hon ?hl hi9 hS hm 10 0 _ _ _ ⟨Int.le_refl _, by omega, Int.le_refl _, by show (ns.length : Int) - 0 ≤ 1024; omega⟩) B ?F X N' T rfl ?d ?u ?_
      case hf => exact List.Mem.head _
      case F => assumption
      case hc => exact .tail _ (List.Mem.head _)
      case hca => k_mem
      case hci => k_mem
      case hcn => k_mem
      case hl => (repeat' (first | with_reducible assumption | exact List.mem_cons_self | (with_reducible refine List.mem_cons_of_mem _ ?_)))
      case hcd => assumption
      case hcv => assumption
      case hoa => assumption
      case hoi => assumption
      case hon => assumption
      case d => omega
      case u => omega
      rintro r9 news9 h9 tk9 F9 N9 ⟨rfl, t9, rfl⟩
      rw [sl_all]
      exact Ends.intro F9 (led_of N9 sub_coldD) ⟨_, t9, rfl, .warm (by assumption) (by assumption) (by refine neN ?_; omega), Fresher.cold (by omega) hltn (by omega), rfl⟩
    · rename News _ _ _ _ => N'
      have hz : ns = [] := List.eq_nil_of_length_eq_zero (by first | omega | (have := (by assumption : decide (0 < ns.length) = false); simpa using this))
      subst hz
      dsimp only
      exact Ends.intro (by assumption) (led_of N' sub_coldD) ⟨_, _, rfl, .warm (by assumption) (by assumption) (by refine neN ?_; omega), Fresher.cold (by omega) hltn (by omega), rfl⟩
  | @warm c oc cvs tq hcd hcv hcP =>
    have h69 := ltN (hlt (69, _) (List.Mem.head _))
    have hcL := ltN (hlt (c, _) (.tail _ (List.Mem.head _)))
    replace hcP := neN hcP
    clear hlt
    simp only [List.cons_append, List.nil_append] at N
    repeat' (first | ((fail_if_success (with_reducible show wpAny _ _ (call (Value.ref _) _) _ _ _)); first | (k_unfold; (try dsimp only)) | walk1 | (dsimp only; walk1) | (leave1; walk_say "STEP leave1"; try dsimp only)) | fail "no step")
    · rename News _ _ _ _ => N'
      have hpos : 0 < ns.length := by first | assumption | (have := (by assumption : decide (0 < ns.length) = true); simpa using this)
      refine' CallOk.use (innerD_ok w rfl hn hn2 ?hf ?hc ?hcd ?hcv ?hca ?hoa ?hci ?hoi ?hcn ?hon ?hl hi9 hS hm 10 0 _ _ _ ⟨Int.le_refl _, by omega, Int.le_refl _, by show (ns.length : Int) - 0 ≤ 1024; omega⟩) B ?F X N' T rfl ?d ?u ?_
      case hf => exact List.Mem.head _
      case F => assumption
      case hc => k_mem
      case hca => k_mem
      case hci => k_mem
      case hcn => k_mem
      case hl => (repeat' (first | with_reducible assumption | exact List.mem_cons_self | (with_reducible refine List.mem_cons_of_mem _ ?_)))
      case hcd => assumption
      case hcv => assumption
      case hoa => assumption
      case hoi => assumption
      case hon => assumption
      case d => omega
      case u => omega
      rintro r9 news9 h9 tk9 F9 N9 ⟨rfl, t9, rfl⟩
      rw [sl_all]
      exact Ends.intro F9 (led_of N9 sub_warmD) ⟨_, t9, rfl, .warm hcd hcv hcP, .refl, rfl⟩
    · rename News _ _ _ _ => N'
      have hz : ns = [] := List.eq_nil_of_length_eq_zero (by first | omega | (have := (by assumption : decide (0 < ns.length) = false); simpa using this))
      subst hz
      dsimp only
      exact Ends.intro (by assumption) (led_of N' sub_warmD) ⟨_, _, rfl, .warm hcd hcv hcP, .refl, rfl⟩
end
end Mine

end
section
set_option maxRecDepth 100000
set_option maxHeartbeats 8000000
namespace Mine
/-- the state of the two tables of codes made in bodies -/
structure Tabs (tb1 tb2 : Led) : Prop where
  t1 : Tab 62 pos62 q62 tb1
  t2 : Tab 69 pos69 q69 tb2
  n1 : ∀ p ∈ tb2, p.1 ≠ 62
  n2 : ∀ p ∈ tb1, p.1 ≠ 69
def OffTabs (news : Led) : Prop := ∀ p ∈ news, p.1 ≠ 62 ∧ p.1 ≠ 69
def TabsUp (tb1 tb2 tb1' tb2' news : Led) : Prop := ∀ p ∈ tb1' ++ tb2', (∃ q ∈ tb1 ++ tb2, q.1 = p.1) ∨ ∀ q ∈ news, q.1 < p.1
theorem TabsUp.refl {tb1 tb2 news : Led} : TabsUp tb1 tb2 tb1 tb2 news := fun p hp => .inl ⟨p, hp, rfl⟩
theorem TabsUp.trans {a b c d e f n n' : Led} (h : TabsUp a b c d n) (k : TabsUp c d e f n') (hs : ∀ p ∈ n, p ∈ n') : TabsUp a b e f n := fun p hp => by
  rcases k p hp with ⟨q, hq, e1⟩ | h2
  · rcases h q hq with ⟨r, hr, e2⟩ | h3
    · exact .inl ⟨r, hr, e2.trans e1⟩
    · exact .inr fun r hr => by rw [← e1]; exact h3 r hr
  · exact .inr fun r hr => h2 r (hs r hr)
theorem TabsUp.ne {a b c d n : Led} {X : Addr} {o : Obj} (h : TabsUp a b c d n) (h1 : ∀ p ∈ a ++ b, p.1 ≠ X) (hX : (X, o) ∈ n) : ∀ p ∈ c ++ d, p.1 ≠ X := fun p hp e1 => by
  rcases h p hp with ⟨q, hq, e2⟩ | h3
  · exact h1 q hq (e2.trans e1)
  · have h4 : X < p.1 := h3 (X, o) hX
    rw [e1] at h4
    exact Nat.lt_irrefl _ h4
def DmPost (a b : Int) (tb1 tb2 news : Led) (r : Value) (news' : Led) : Prop :=
  ∃ ad q rr tb1' tb2' t1 t2, r = .ref ad ∧ Tabs tb1' tb2' ∧ TabsUp tb1 tb2 tb1' tb2' news ∧ news' = (ad, pairObj q rr t1 t2) :: (tb1' ++ (tb2' ++ news)) ∧ (∀ p ∈ tb1' ++ (tb2' ++ news), p.1 < ad) ∧ q * b + rr = a ∧ 0 ≤ rr ∧ rr < b
theorem Tab.has {P : Addr} {pos : Pos} {qual : Str} {tb : Led} (h : Tab P pos qual tb) : ∃ o, (P, o) ∈ tb := by
  cases h with
  | cold => exact ⟨_, .head _⟩
  | warm _ _ _ => exact ⟨_, .head _⟩
section
local macro_rules | `(tactic| bits_by_make) => `(tactic| with_reducible assumption)
local macro_rules | `(tactic| bits_by_make) => `(tactic| ((with_reducible apply bits_ediv_pow); bits_by_make))
local macro_rules | `(tactic| walk_at "binaryOp BitXor int int") => `(tactic| ((with_reducible refine xor_rest ?k1 ?_); (case k1 => assumption)))
local macro_rules | `(tactic| walk_at "call builtin:divmod") => `(tactic| ((with_reducible show wpAny _ _ (call (Value.builtin _) [Value.int _ _, Value.int _ _]) _ _ _); refine divmod_N (by assumption) (by assumption) (by assumption) ?_ (Or.inl (by assumption)); intro _ _ _))
local macro_rules | `(tactic| walk_at "binaryOp LShift int int") => `(tactic| ((with_reducible refine' shl_any ?k1 ?k2 ?k3 ?k4 ?_); (case k1 => first | assumption | omega); (case k2 => first | assumption | omega); (case k3 => bits_by_make); (case k4 => first | decide | omega)))
local macro_rules | `(tactic| walk_at "binaryOp LShift int int") => `(tactic| ((with_reducible refine shl_one ?k1 ?k2 ?_); (case k1 => first | assumption | omega); (case k2 => first | assumption | omega)))
local macro_rules | `(tactic| walk_at "inplaceOp LShift int int") => `(tactic| ((with_reducible refine' ishl_one ?k3 ?k4 ?_); (case k3 => bits_by_make); (case k4 => first | decide | omega)))
local macro_rules | `(tactic| walk_at "binaryOp RShift int int") => `(tactic| ((with_reducible refine shr_any ?k1 ?_); (case k1 => first | assumption | omega)))
local macro_rules | `(tactic| walk_at "binaryOp RShift int int") => `(tactic| (with_reducible refine shr_one ?_))
local macro_rules | `(tactic| walk_at "inplaceOp RShift int int") => `(tactic| (with_reducible refine ishr_one ?_))
local macro_rules | `(tactic| walk_at "binaryOp BitAnd int int") => `(tactic| (with_reducible refine and_mask ?_))
local macro_rules | `(tactic| walk_at "binaryOp BitAnd int int") => `(tactic| (with_reducible refine and_one ?_))
local macro_rules | `(tactic| walk_at "binaryOp BitOr int int") => `(tactic| ((with_reducible refine or_shifted ?k1 ?k2 ?k3 ?_); (case k1 => assumption); (case k2 => assumption); (case k3 => assumption)))
local macro_rules | `(tactic| walk_at "call builtin:list.append") => `(tactic| ((k_dflt (refine' append_L ?k1 ?k2 ?k3 ?z ?_; (case k1 => k_asm); (case k2 => k_asm); (case k3 => k_upd); (case z => omega))); intro h' F' N'))
local macro_rules | `(tactic| walk_at "call builtin:list.reverse") => `(tactic| ((k_dflt (refine' reverse_L ?k1 ?k2 ?k3 ?z ?_; (case k1 => k_asm); (case k2 => k_asm); (case k3 => k_upd); (case z => omega))); intro h' F' N'))
local macro_rules | `(tactic| k_all) => `(tactic| with_reducible assumption)
theorem divmod_ok (w : World) {a b : Int} {ta tb : Tok} {tb1 tb2 news : Led} (ha : 0 ≤ a) (hb : 0 < b) (hab : Builtin.Int.intBits a ≤ 100000) (hbb : Builtin.Int.intBits b ≤ 8500) (hc : (Builtin.Int.intBits a : Int) ≤ 1000 * (Builtin.Int.intBits b : Int))
    (hTt : Tabs tb1 tb2) (hOff : OffTabs news) :
    CallOk PySem.Challenge.rw_nb0143_01.row.prog w (Mine.hd.heap_39 w.params) 81 [.int a ta, .int b tb] 30 300 (tb1 ++ (tb2 ++ news))
      (DmPost a b tb1 tb2 news) := by
  k_fill
  refine callOk_of_body (dep := 29) (uni := 297) [(Str.ofString "a", _), (Str.ofString "b", _)] rfl rfl (fun _ => BindsTo.of_eq rfl) (locs rfl) ?_ rfl rfl rfl (by decide)
  intro p loose mean mg mb dp un gd outer A₀ base g L s B F X N hlt T hd hu
  have hbn : 0 < Builtin.Int.intBits b := bits_pos hb
  repeat' (first | ((fail_if_success (with_reducible show wpAny _ _ (call (Value.ref _) _) _ _ _)); first | (k_unfold; (try dsimp only)) | walk1 | (dsimp only; walk1) | (leave1; walk_say "STEP leave1"; try dsimp only)) | fail "no step")
  refine CallOk.use (int2digits_ok w a _ _ _ tb1 (tb2 ++ news) ha (by omega) (by omega) hab hc hTt.t1 (fun p hp => (List.mem_append.mp hp).elim (hTt.n1 p) fun h => (hOff p h).1)) B (by assumption) X (by assumption) T rfl (by omega) (by omega) ?_
  rintro r9 news9 h9 tk9 F9 N9 ⟨ad, vs, tb1', rfl, hT1', hfr1, rfl, hadne, hadlt, hI9⟩
  generalize hR : tb1' ++ (tb2 ++ news) = REST at *
  repeat' (first | ((fail_if_success (with_reducible show wpAny _ _ (call (Value.ref _) _) _ _ _)); (fail_if_success (with_reducible show wpAny _ _ (pyIter _) _ _ _)); first | (k_unfold; (try dsimp only)) | walk1 | (dsimp only; walk1) | (leave1; walk_say "STEP leave1"; try dsimp only)) | fail "no step")
  rename News _ _ _ _ => N'; rename Fr _ _ _ _ => F'
  rename_i lq h1 l1 h2 D h3 l2
  have hlqR : ∀ p ∈ (ad, listOf vs.toArray 0) :: REST, p.1 ≠ lq := List.forall_mem_cons.mpr ⟨neN (by omega), fun p hp => Nat.ne_of_lt (ktn_ltOf l1.2 p hp)⟩
  have hlen := hI9.length
  refine iter_rev (σ := List Value × List Int × Int × Nat × Tok) (lo := listOf vs.toArray 0) (fun c => (lq, listOf c.1.toArray c.2.2.2.1) :: (ad, listOf vs.toArray 0) :: REST) (fun c => [(Str.ofString "r", .int c.2.2.1 c.2.2.2.2)]) [Str.ofString "a_digit", Str.ofString "q_digit"]
    (fun i c => IntsAre c.1 c.2.1 ∧ DivInv (Builtin.Int.intBits b) b (digitsOf (Builtin.Int.intBits b) a) i c.2.1 c.2.2.1) ([], [], 0, 0, _) rfl rfl (fun c => .tail _ (.head _)) rfl ⟨0, rfl⟩ F' N' (List.forall_mem_cons.mpr ⟨neN (by omega), List.forall_mem_cons.mpr ⟨neN (by omega), fun p hp => Nat.ne_of_lt (ktn_ltOf l2.2.2 p hp)⟩⟩) (by kst_all) ⟨.nil, .start hb⟩ ?_ ?_
  · rintro i v ⟨vq, qs, r, e, tr⟩ u h tk it hi hv ⟨hIq, hD⟩ hneI F2 N2
    dsimp only [kstB] at hIq hD hneI F2 N2
    obtain ⟨d, td, rfl, hd9, hdm, hi'⟩ := digit_at hI9 hi hv
    obtain ⟨hd0, hd1⟩ := digitsOf_small d hdm
    have hvq : vq.length ≤ 1000 := by have h1 := hIq.length; have h2 := hD.len; have h3 := digitsOf_le hbn hc; omega
    have hpre := hD.pre rfl hb hbb hd0 hd1
    have hbr : Builtin.Int.intBits r ≤ 8500 := bits_of_lt' hD.r0 (Int.lt_trans hD.r1 (bits_lt (by omega))) hbb
    repeat' (first | ((fail_if_success (with_reducible show wpAny _ _ (call (Value.ref _) _) _ _ _)); first | (k_unfold; (try dsimp only)) | walk1 | (dsimp only; walk1) | (leave1; walk_say "STEP leave1"; try dsimp only)) | fail "no step")
    refine CallOk.use (div2_ok w 3 _ b _ hpre (by omega) _ _ _ _) B (by assumption) X (by assumption) T rfl (by omega) (by omega) ?_
    rintro r8 news8 h8 tk8 F8 N8 ⟨tp, q, r', t1, t2, rfl, rfl, hl8, e1, e2, e3⟩
    have hq1 := ltN (hl8 (lq, _) (.tail _ (.head _)))
    have hDq := neN (hneI (lq, _) (.head _))
    repeat' (first | ((fail_if_success (with_reducible show wpAny _ _ (call (Value.ref _) _) _ _ _)); first | (k_unfold; (try dsimp only)) | walk1 | (dsimp only; walk1) | (leave1; walk_say "STEP leave1"; try dsimp only)) | fail "no step")
    rename News _ _ _ _ => N3
    try simp only [List.push_toArray] at N3
    dsimp only [TurnPost]
    exact turn_end (vq ++ [.int q t1], qs ++ [q], r', e + 1, t2) (by assumption) N3 sub2 (.tail _ (.head _)) (List.forall_mem_cons.mpr ⟨hDq, fun p9 hp9 => hneI p9 (.tail _ hp9)⟩) (by kst_all) (by ksw_same) ⟨IntsAre.append hIq (.cons q t1 .nil), hD.step hi' hd9 hd0 hd1 e1 e2 e3⟩
  · rintro ⟨vq, qs, r, e, tr⟩ u h tk ⟨hIq, hD⟩ F2 N2
    dsimp only [kstB] at hIq hD F2 N2
    have hvq : vq.length ≤ 1000 := by have h1 := hIq.length; have h2 := hD.len; have h3 := digitsOf_le hbn hc; omega
    repeat' (first | ((fail_if_success (with_reducible show wpAny _ _ (call (Value.ref _) _) _ _ _)); first | (k_unfold; (try dsimp only)) | walk1 | (dsimp only; walk1) | (leave1; walk_say "STEP leave1"; try dsimp only)) | fail "no step")
    rename News _ _ _ _ => N3
    have h69 : ∃ o, (69, o) ∈ tb2 ++ news := hTt.t2.has.elim fun o ho => ⟨o, List.mem_append_left _ ho⟩
    have hn2' := hfr1.ne hTt.n2 h69
    subst hR
    have N4 := led_of N3 (k := tb2 ++ ((lq, listOf vq.reverse.toArray e) :: (tb1' ++ news))) (by
      intro p9 hp9
      simp only [List.mem_append, List.mem_cons] at hp9 ⊢
      rcases hp9 with h | h | h | h <;> simp only [h, true_or, or_true])
    have hlq69 : lq ≠ 69 := h69.elim fun o ho => Nat.ne_of_gt (ktn_ltOf l1.2 (69, o) (List.mem_append_right _ ho))
    have hS := hD.small
    have hmul : (Builtin.Int.intBits b : Int) * ((qs.reverse).length : Int) ≤ 1000000 := by
      rw [List.length_reverse, hD.len]
      exact digitsOf_mul hbn hbb hab hlen
    refine' CallOk.use (digits2int_ok w (hl := List.Mem.head _) (hi9 := ints_rev hIq) ?hn ?hn2 ?hS ?hc hmul hTt.t2 ?hne) B ?F X N4 T rfl ?d ?u ?_
    case hn => omega
    case hn2 => omega
    case hS => rw [Int.toNat_natCast]; exact fun x hx => hS x (List.mem_reverse.mp hx)
    case hc => rw [List.length_reverse, ← hIq.length]; omega
    case hne => exact List.forall_mem_cons.mpr ⟨hlq69, fun p9 hp9 => (List.mem_append.mp hp9).elim (hn2' p9) fun h => (hOff p9 h).2⟩
    case F => assumption
    case d => omega
    case u => omega
    rintro r7 news7 h7 tk7 F7 N7 ⟨tb2', t7, rfl, hT2', hfr2, rfl⟩
    have h62 : ∃ o, (62, o) ∈ (lq, listOf vq.reverse.toArray e) :: (tb1' ++ news) := hT1'.has.elim fun o ho => ⟨o, .tail _ (List.mem_append_left _ ho)⟩
    have hn1' := hfr2.ne hTt.n1 h62
    rw [Int.toNat_natCast]
    repeat' (first | ((fail_if_success (with_reducible show wpAny _ _ (call (Value.ref _) _) _ _ _)); first | (k_unfold; (try dsimp only)) | walk1 | (dsimp only; walk1) | (leave1; walk_say "STEP leave1"; try dsimp only)) | fail "no step")
    rename News _ _ _ _ => N8
    rename (∀ p ∈ tb2' ++ _, _ < _) => l8
    have heq := hD.eqAll hlen
    have hval := val_digitsOf (n := (Builtin.Int.intBits b : Int)) ha (by omega)
    rw [Int.toNat_natCast] at hval
    rw [hval] at heq
    refine Ends.intro (by assumption) (led_of N8 ?_) ⟨_, _, _, tb1', tb2', t7, tr, rfl, ⟨hT1', hT2', hn1', hn2'⟩, ?_, rfl, ?_, heq, hD.r0, hD.r1⟩
    · intro p9 hp9
      simp only [List.mem_append, List.mem_cons] at hp9 ⊢
      rcases hp9 with h | h | h | h <;> simp only [h, true_or, or_true]
    · intro p9 hp9
      rcases List.mem_append.mp hp9 with h | h
      · exact (hfr1 p9 h).imp (fun ⟨q9, hq9, e9⟩ => ⟨q9, List.mem_append_left _ hq9, e9⟩) fun h2 q9 hq9 => h2 q9 (List.mem_append_right _ (List.mem_append_right _ hq9))
      · exact (hfr2 p9 h).imp (fun ⟨q9, hq9, e9⟩ => ⟨q9, List.mem_append_right _ hq9, e9⟩) fun h2 q9 hq9 => h2 q9 (List.mem_append_right _ (.tail _ (List.mem_append_right _ hq9)))
    · intro p9 hp9
      refine l8 p9 ?_
      simp only [List.mem_append, List.mem_cons] at hp9 ⊢
      rcases hp9 with h | h | h <;> simp only [h, true_or, or_true]
end
end Mine

end
section
set_option maxRecDepth 100000
set_option maxHeartbeats 8000000
namespace Mine
section
local macro_rules | `(tactic| bits_by_make) => `(tactic| with_reducible assumption)
local macro_rules | `(tactic| bits_by_make) => `(tactic| ((with_reducible apply bits_ediv_pow); bits_by_make))
local macro_rules | `(tactic| walk_at "binaryOp BitXor int int") => `(tactic| ((with_reducible refine xor_rest ?k1 ?_); (case k1 => assumption)))
local macro_rules | `(tactic| walk_at "call builtin:divmod") => `(tactic| ((with_reducible show wpAny _ _ (call (Value.builtin _) [Value.int _ _, Value.int _ _]) _ _ _); refine divmod_N (by assumption) (by assumption) (by assumption) ?_ (Or.inl (by assumption)); intro _ _ _))
local macro_rules | `(tactic| walk_at "binaryOp LShift int int") => `(tactic| ((with_reducible refine' shl_any ?k1 ?k2 ?k3 ?k4 ?_); (case k1 => first | assumption | omega); (case k2 => first | assumption | omega); (case k3 => bits_by_make); (case k4 => first | decide | omega)))
local macro_rules | `(tactic| walk_at "binaryOp LShift int int") => `(tactic| ((with_reducible refine shl_one ?k1 ?k2 ?_); (case k1 => first | assumption | omega); (case k2 => first | assumption | omega)))
local macro_rules | `(tactic| walk_at "inplaceOp LShift int int") => `(tactic| ((with_reducible refine' ishl_one ?k3 ?k4 ?_); (case k3 => bits_by_make); (case k4 => first | decide | omega)))
local macro_rules | `(tactic| walk_at "binaryOp RShift int int") => `(tactic| ((with_reducible refine shr_any ?k1 ?_); (case k1 => first | assumption | omega)))
local macro_rules | `(tactic| walk_at "binaryOp RShift int int") => `(tactic| (with_reducible refine shr_one ?_))
local macro_rules | `(tactic| walk_at "inplaceOp RShift int int") => `(tactic| (with_reducible refine ishr_one ?_))
local macro_rules | `(tactic| walk_at "binaryOp BitAnd int int") => `(tactic| (with_reducible refine and_mask ?_))
local macro_rules | `(tactic| walk_at "binaryOp BitAnd int int") => `(tactic| (with_reducible refine and_one ?_))
local macro_rules | `(tactic| walk_at "binaryOp BitOr int int") => `(tactic| ((with_reducible refine or_shifted ?k1 ?k2 ?k3 ?_); (case k1 => assumption); (case k2 => assumption); (case k3 => assumption)))
theorem told_ok (w : World) {pw : Int} {tp : Tok} {lst : Addr} {vs : List Value} {pcs : List (Int × Str)} {tps : Led} {e : Nat} {tb1 tb2 news : Led} (hpw : 0 < pw) (hpw2 : pw ≤ 32)
    (hl : (lst, listOf vs.toArray e) ∈ news) (hP : Pairs vs pcs tps) (hsub : ∀ p ∈ tps, p ∈ news) (hok : ∀ p ∈ pcs, 0 ≤ p.1 ∧ p.1 ≤ 24 ∧ p.2.length ≤ 1) (hlen : pcs.length ≤ 100)
    (hTt : Tabs tb1 tb2) (hOff : OffTabs news) :
    CallOk PySem.Challenge.rw_nb0143_01.row.prog w (Mine.hd.heap_39 w.params) 95 [.ref lst, .int pw tp] 40 400 (tb1 ++ (tb2 ++ news))
      (fun r news' => ∃ t tb1' tb2', r = .str (S (toldOf pw pcs)) t ∧ Tabs tb1' tb2' ∧ TabsUp tb1 tb2 tb1' tb2' news ∧ news' = tb1' ++ (tb2' ++ news)) := by
  k_fill
  refine callOk_of_body (dep := 39) (uni := 397) [(Str.ofString "pieces", _), (Str.ofString "power", _)] rfl rfl (fun _ => BindsTo.of_eq rfl) (locs rfl) ?_ rfl rfl rfl (by decide)
  intro p loose mean mg mb dp un gd outer A₀ base g L s B F X N hlt T hd hu
  repeat' (first | ((fail_if_success (with_reducible show wpAny _ _ (exec (Stmt.For _ _ _ _ _) _) _ _ _)); first | (k_unfold; (try dsimp only)) | walk1 | (dsimp only; walk1) | (leave1; walk_say "STEP leave1"; try dsimp only)) | fail "no step")
  refine wpAny_For ?_ (fun _ => rfl)
  repeat' (first | ((fail_if_success (with_reducible show wpAny _ _ (pyIter _) _ _ _)); first | (k_unfold; (try dsimp only)) | walk1 | (dsimp only; walk1) | (leave1; walk_say "STEP leave1"; try dsimp only)) | fail "no step")
  rename News _ _ _ _ => N'; rename Fr _ _ _ _ => F'
  refine iter_listT (σ := Led × Led × Str × Tok) (lo := listOf vs.toArray e) (fun c => c.1 ++ (c.2.1 ++ news)) (fun c => [(Str.ofString "told", .str c.2.2.1 c.2.2.2)]) [Str.ofString "run", Str.ofString "sign", Str.ofString "whole", Str.ofString "rest"]
    (fun i c => Tabs c.1 c.2.1 ∧ TabsUp tb1 tb2 c.1 c.2.1 news ∧ ToldInv pw pcs i c.2.2.1) (tb1, tb2, _, _) rfl (.inl fun c => List.mem_append_right _ (List.mem_append_right _ hl)) rfl ⟨e, rfl⟩ hP.refs F' N' (by kst_all) ⟨hTt, .refl, .start⟩ ?_ ?_ PassesOwn.never
  · rintro i v ⟨t1, t2, told, tk9⟩ u h tk I it hi hv ⟨hTc, hUp, hInv⟩ hneI F2 N2
    dsimp only [kstB] at hTc hUp hInv hneI F2 N2
    obtain ⟨a, r, x, u1, u2, rfl, hpi, hmem⟩ := hP.at hv
    obtain ⟨hr0, hr1, hx1⟩ := hok _ (List.mem_of_getElem? hpi)
    have hmem' := hsub _ hmem
    have N3 := led_of N2 (k := (a, pobj r x u1 u2) :: (t1 ++ (t2 ++ ((I, it) :: news)))) (by
      intro p9 hp9
      simp only [List.mem_append, List.mem_cons] at hp9 ⊢
      rcases hp9 with h | h | h | h | h
      · exact .inr (.inr (.inr (h ▸ hmem')))
      all_goals simp only [h, true_or, or_true])
    clear N2
    repeat' (first | ((fail_if_success (with_reducible show wpAny _ _ (call (Value.ref _) _) _ _ _)); first | (k_unfold; (try dsimp only)) | walk1 | (dsimp only; walk1) | (leave1; walk_say "STEP leave1"; try dsimp only)) | fail "no step")
    rename News _ _ _ _ => N4
    have hO2 : OffTabs ((I, it) :: news) := List.forall_mem_cons.mpr ⟨⟨hTc.t1.has.elim fun o ho => (hneI (62, o) (List.mem_append_left _ ho)).symm, hTc.t2.has.elim fun o ho => (hneI (69, o) (List.mem_append_right _ (List.mem_append_left _ ho))).symm⟩, hOff⟩
    obtain ⟨hb1, hb2, hb3⟩ := told_bits hr0 hr1 hpw hpw2
    refine CallOk.use (divmod_ok w hr0 hpw hb1 hb2 hb3 hTc hO2) B (by assumption) X (led_of N4 (fun p hp => .tail _ hp)) T rfl (by omega) (by omega) ?_
    rintro r9 news9 h9 tk9' F9 N9 ⟨ad, q, rr, t1', t2', v1, v2, rfl, hT', hUp', rfl, hlt', e1, e2, e3⟩
    obtain ⟨hq0, hq1⟩ := told_q hr0 hr1 hpw e1 e2 e3
    have hil : i < 100 := by have := hP.len; omega
    have htl := hInv.len
    have htl2 : told.length ≤ 3000 := by omega
    have hneI' : ∀ p ∈ t1' ++ t2', p.1 ≠ I := hUp'.ne (fun p9 hp9 => hneI p9 ((List.mem_append.mp hp9).elim (fun h => List.mem_append_left _ h) fun h => List.mem_append_right _ (List.mem_append_left _ h))) (.head _)
    have hUp2 : TabsUp tb1 tb2 t1' t2' news := hUp.trans hUp' (fun _ h => .tail _ h)
    repeat' (first | ((fail_if_success (with_reducible show wpAny _ _ (call (Value.ref _) _) _ _ _)); first | (k_unfold; (try dsimp only)) | walk1 | (dsimp only; walk1) | (leave1; walk_say "STEP leave1"; try dsimp only)) | fail "no step")
    · rename News _ _ _ _ => N5
      dsimp only [TurnPost]
      exact Ends.intro (by assumption) (led_of N5 sub_ret) ⟨_, t1', t2', congrArg (Value.str · _) (hInv.stop hpi hpw e1 e2 e3 (by assumption)), hT', hUp2, rfl⟩
    · rename News _ _ _ _ => N5
      dsimp only [TurnPost]
      exact turn_end (t1', t2', _, _) (by assumption) N5 sub_ret (by simp) (told_ne hneI' hneI) (by kst_all) (by ksw_same) ⟨hT', hUp2, hInv.next hpi hpw e1 e2 e3 (by assumption) hq0 hq1 hx1⟩
  · rintro ⟨t1, t2, told, tk9⟩ u h tk ⟨hTc, hUp, hInv⟩ F2 N2
    dsimp only [kstB] at hTc hUp hInv F2 N2
    rw [hP.len] at hInv
    repeat' (first | ((fail_if_success (with_reducible show wpAny _ _ (call (Value.ref _) _) _ _ _)); first | (k_unfold; (try dsimp only)) | walk1 | (dsimp only; walk1) | (leave1; walk_say "STEP leave1"; try dsimp only)) | fail "no step")
    dsimp only
    exact Ends.intro (by assumption) (by assumption) ⟨_, t1, t2, congrArg (Value.str · _) hInv.fin, hTc, hUp, rfl⟩
end
end Mine

end
section
set_option maxRecDepth 100000
set_option maxHeartbeats 8000000
namespace Mine
section
local macro_rules | `(tactic| bits_by_make) => `(tactic| with_reducible assumption)
local macro_rules | `(tactic| bits_by_make) => `(tactic| ((with_reducible apply bits_ediv_pow); bits_by_make))
local macro_rules | `(tactic| walk_at "binaryOp BitXor int int") => `(tactic| ((with_reducible refine xor_rest ?k1 ?_); (case k1 => assumption)))
local macro_rules | `(tactic| walk_at "call builtin:divmod") => `(tactic| ((with_reducible show wpAny _ _ (call (Value.builtin _) [Value.int _ _, Value.int _ _]) _ _ _); refine divmod_N (by assumption) (by assumption) (by assumption) ?_ (Or.inl (by assumption)); intro _ _ _))
local macro_rules | `(tactic| walk_at "binaryOp LShift int int") => `(tactic| ((with_reducible refine' shl_any ?k1 ?k2 ?k3 ?k4 ?_); (case k1 => first | assumption | omega); (case k2 => first | assumption | omega); (case k3 => bits_by_make); (case k4 => first | decide | omega)))
local macro_rules | `(tactic| walk_at "binaryOp LShift int int") => `(tactic| ((with_reducible refine shl_one ?k1 ?k2 ?_); (case k1 => first | assumption | omega); (case k2 => first | assumption | omega)))
local macro_rules | `(tactic| walk_at "inplaceOp LShift int int") => `(tactic| ((with_reducible refine' ishl_one ?k3 ?k4 ?_); (case k3 => bits_by_make); (case k4 => first | decide | omega)))
local macro_rules | `(tactic| walk_at "binaryOp RShift int int") => `(tactic| ((with_reducible refine shr_any ?k1 ?_); (case k1 => first | assumption | omega)))
local macro_rules | `(tactic| walk_at "binaryOp RShift int int") => `(tactic| (with_reducible refine shr_one ?_))
local macro_rules | `(tactic| walk_at "inplaceOp RShift int int") => `(tactic| (with_reducible refine ishr_one ?_))
local macro_rules | `(tactic| walk_at "binaryOp BitAnd int int") => `(tactic| (with_reducible refine and_mask ?_))
local macro_rules | `(tactic| walk_at "binaryOp BitAnd int int") => `(tactic| (with_reducible refine and_one ?_))
local macro_rules | `(tactic| walk_at "binaryOp BitOr int int") => `(tactic| ((with_reducible refine or_shifted ?k1 ?k2 ?k3 ?_); (case k1 => assumption); (case k2 => assumption); (case k3 => assumption)))
local macro_rules | `(tactic| walk_at "call builtin:list.append") => `(tactic| ((k_dflt (refine' append_L ?k1 ?k2 ?k3 ?z ?_; (case k1 => k_asm); (case k2 => k_asm); (case k3 => k_upd); (case z => omega))); intro h' F' N'))
local macro_rules | `(tactic| walk_at "call builtin:list.reverse") => `(tactic| ((k_dflt (refine' reverse_L ?k1 ?k2 ?k3 ?z ?_; (case k1 => k_asm); (case k2 => k_asm); (case k3 => k_upd); (case z => omega))); intro h' F' N'))
local macro_rules | `(tactic| k_all) => `(tactic| with_reducible assumption)
theorem pieces_ok (w : World) {l : Addr} {vs : List Value} {ns : List Int} {news : Led} (hI : IntsAre vs ns) (hlen : ns.length ≤ 63) :
    CallOkH PySem.Challenge.rw_nb0143_01.row.prog w (Mine.hd.heap_39 w.params) 88 [.ref l] 10 100 news (ListAt l vs)
      (fun r news' => ∃ lp vp tps e, r = .ref lp ∧ Pairs vp (piecesOf ns) tps ∧ news' = (lp, listOf (List.toArray vp) e) :: (tps ++ news) ∧ (∀ p ∈ tps ++ news, p.1 ≠ lp) ∧ (∀ q ∈ news, q.1 < lp) ∧ ∀ p ∈ tps, ∀ q ∈ news, q.1 < p.1) := by
  k_fill
  refine callOkH_of_body (dep := 9) (uni := 97) [(Str.ofString "script", _)] rfl rfl (fun _ => BindsTo.of_eq rfl) (locs rfl) ListAt.keep ?_ rfl rfl rfl (by decide)
  intro p loose mean mg mb dp un gd outer A₀ base g L s B F X N hLA hlt T hd hu
  have hLi := hLA.isList
  repeat' (first | ((fail_if_success (with_reducible show wpAny _ _ (exec (Stmt.For _ _ _ _ _) _) _ _ _)); first | (k_unfold; (try dsimp only)) | walk1 | (dsimp only; walk1) | (leave1; walk_say "STEP leave1"; try dsimp only)) | fail "no step")
  refine For_invV g rfl rfl ?_ (fun _ => rfl) PassesOwn.never
  repeat' (first | ((fail_if_success (with_reducible show wpAny _ _ (pyIter _) _ _ _)); first | (k_unfold; (try dsimp only)) | walk1 | (dsimp only; walk1) | (leave1; walk_say "STEP leave1"; try dsimp only)) | fail "no step")
  rename News _ _ _ _ => N'; rename Fr _ _ _ _ => F'
  rename IntsAre _ (List.take 8 ns ++ [1566, 1578]) => hI2
  rename_i lp _ l1a _ D1 _ _ _ _ _ l2 _ _ l1 D ws _ l3
  generalize hxs : List.take 8 ns ++ [1566, 1578] = xs at hI2
  have hxl : xs.length ≤ 10 := by rw [← hxs]; simp; omega
  refine iter_list (σ := List Value × Led × Nat) (lo := listOf ws.toArray 0) (fun c => (lp, listOf c.1.toArray c.2.2) :: (c.2.1 ++ ((D, listOf ws.toArray 0) :: news))) (fun c => []) [Str.ofString "x", Str.ofString "size", Str.ofString "code"]
    (fun i c => Pairs c.1 ((xs.take i).map pieceOf) c.2.1 ∧ (∀ p ∈ c.2.1 ++ ((D, listOf ws.toArray 0) :: news), p.1 ≠ lp) ∧ ∀ p ∈ c.2.1, ∀ q ∈ news, q.1 < p.1) ([], [], 0) rfl rfl (.inl fun c => .tail _ (List.mem_append_right _ (.head _))) rfl ⟨0, rfl⟩ F' (led_of N' sub_p0) (by kst_all) ⟨.nil, List.forall_mem_cons.mpr ⟨neN (by omega), fun p hp => Nat.ne_of_lt (l1a p hp)⟩, fun _ h => nomatch h⟩ ?_ ?_
  · rintro i v ⟨vp, tps, e⟩ u h tk I it hi hv ⟨hPa, hlp, hup⟩ hneI F2 N2
    dsimp only [kstB] at hPa hlp hup hneI F2 N2
    obtain ⟨x, t, rfl, hx⟩ := int_at hI2 hv
    have hvp : vp.length ≤ 1000 := by have := hPa.len; have h2 := hI2.length; rw [List.length_map, List.length_take] at this; omega
    have hIlp := neN (hneI (lp, _) (.head _))
    repeat' (first | ((fail_if_success (with_reducible show wpAny _ _ (call (Value.ref _) _) _ _ _)); first | (k_unfold; (try dsimp only)) | walk1 | (dsimp only; walk1) | (leave1; walk_say "STEP leave1"; try dsimp only)) | fail "no step")
    · rename News _ _ _ _ => N5
      rename (_ < _ ∧ _ < _ ∧ AllLt _ (tps ++ _)) => lD
      dsimp only [TurnPost]
      refine turn_end (vp ++ [.ref _], tps ++ [(_, pobj _ _ _ _)], e + 1) (by assumption) N5 sub_p1 (.tail _ (.head _)) (ne_p1 (fun p9 hp9 => hneI p9 (.tail _ hp9)) hIlp (neN (by dsimp only; omega))) (by kst_all) (by ksw_same) ⟨hPa.grow (piece_ge (by assumption)) (take_map hx), ne_p2 hlp (neN (by dsimp only; omega)), up_grow hup lD.2.2⟩
    · rename News _ _ _ _ => N5
      rename (_ < _ ∧ _ < _ ∧ AllLt _ (tps ++ _)) => lD
      dsimp only [TurnPost]
      refine turn_end (vp ++ [.ref _], tps ++ [(_, pobj _ _ _ _)], e + 1) (by assumption) N5 sub_p1 (.tail _ (.head _)) (ne_p1 (fun p9 hp9 => hneI p9 (.tail _ hp9)) hIlp (neN (by dsimp only; omega))) (by kst_all) (by ksw_same) ⟨hPa.grow (piece_lt (by assumption)) (take_map hx), ne_p2 hlp (neN (by dsimp only; omega)), up_grow hup lD.2.2⟩
  · rintro ⟨vp, tps, e⟩ u h tk ⟨hPa, hlp, hup⟩ F2 N2
    dsimp only [kstB] at hPa hlp hup F2 N2
    have hvp : vp.length ≤ 1000 := by have := hPa.len; have h2 := hI2.length; rw [List.length_map, List.length_take] at this; omega
    repeat' (first | ((fail_if_success (with_reducible show wpAny _ _ (call (Value.ref _) _) _ _ _)); first | (k_unfold; (try dsimp only)) | walk1 | (dsimp only; walk1) | (leave1; walk_say "STEP leave1"; try dsimp only)) | fail "no step")
    rename News _ _ _ _ => N5
    rename (_ < _ ∧ AllLt _ (tps ++ _)) => lD
    dsimp only
    have hpl : (ws.length : Nat) = xs.length := hI2.length
    rw [hpl, List.take_length] at hPa
    refine Ends.intro (by assumption) (led_of N5 sub_p3) ⟨lp, vp ++ [.ref _], tps ++ [(_, pobj _ _ _ _)], e + 1, rfl, hPa.grow (last_eq ns.length) (by rw [piecesOf, hxs]), rfl, ne_p3 hlp (neN (by dsimp only; omega)), l1a, up_grow hup lD.2⟩
end
end Mine

end
section
set_option maxRecDepth 100000
set_option maxHeartbeats 8000000
namespace Mine
theorem tabs_cold : Tabs [(62, tabObj #[])] [(69, tabObj #[])] := ⟨.cold, .cold, fun p hp => by rw [List.mem_singleton.mp hp]; decide, fun p hp => by rw [List.mem_singleton.mp hp]; decide⟩
theorem sub_law {a b : Addr × Obj} {t : Led} {x y : Addr × Obj} : ∀ p ∈ [x] ++ ([y] ++ (a :: b :: t)), p ∈ a :: b :: (t ++ [y, x]) := by
  intro p hp
  simp only [List.mem_append, List.mem_cons, List.not_mem_nil, or_false] at hp ⊢
  rcases hp with h | h | h | h | h <;> simp only [h, true_or, or_true]
theorem off1_mem {D : Addr} {l : Led} (h : LCg.Off1 D l) : ∀ p ∈ l, p.1 ≠ D := by
  induction l with
  | nil => intro p hp; cases hp
  | cons q r ih =>
    intro p hp
    rcases List.mem_cons.mp hp with e | hp
    · rw [e]; exact h.1
    · exact ih h.2 p hp
theorem off_law {D lp : Addr} {o1 o2 o3 o4 : Obj} {t : Led} (h1 : LCg.Off1 D ((lp, o1) :: (t ++ [(69, o3), (62, o4)]))) (h2 : ∀ q ∈ [((69 : Addr), o3), (62, o4)], q.1 < lp) (h3 : ∀ p ∈ t, ∀ q ∈ [((69 : Addr), o3), (62, o4)], q.1 < p.1) : OffTabs ((D, o2) :: (lp, o1) :: t) := by
  have a := off1_mem h1
  refine List.forall_mem_cons.mpr ⟨⟨?_, ?_⟩, List.forall_mem_cons.mpr ⟨⟨?_, ?_⟩, fun p hp => ⟨?_, ?_⟩⟩⟩
  · exact Ne.symm (a (62, o4) (.tail _ (List.mem_append_right _ (.tail _ (.head _)))))
  · exact Ne.symm (a (69, o3) (.tail _ (List.mem_append_right _ (.head _))))
  · exact Nat.ne_of_gt (h2 (62, o4) (.tail _ (.head _)))
  · exact Nat.ne_of_gt (h2 (69, o3) (.head _))
  · exact Nat.ne_of_gt (h3 p hp (62, o4) (.tail _ (.head _)))
  · exact Nat.ne_of_gt (h3 p hp (69, o3) (.head _))
theorem off_it {I : Addr} {it : Obj} {tb1 tb2 n : Led} (h : ∀ p ∈ tb1 ++ (tb2 ++ n), p.1 ≠ I) (hT : Tabs tb1 tb2) (hO : OffTabs n) : OffTabs ((I, it) :: n) :=
  List.forall_mem_cons.mpr ⟨⟨hT.t1.has.elim fun o ho => Ne.symm (h (62, o) (List.mem_append_left _ ho)), hT.t2.has.elim fun o ho => Ne.symm (h (69, o) (List.mem_append_right _ (List.mem_append_left _ ho)))⟩, hO⟩
theorem ne_it {I : Addr} {it : Obj} {a b c d n : Led} (h : ∀ p ∈ a ++ (b ++ n), p.1 ≠ I) (hU : TabsUp a b c d ((I, it) :: n)) : ∀ p ∈ c ++ (d ++ n), p.1 ≠ I := by
  have h1 := hU.ne (X := I) (o := it) (fun p hp => h p ((List.mem_append.mp hp).elim (fun q => List.mem_append_left _ q) fun q => List.mem_append_right _ (List.mem_append_left _ q))) (.head _)
  intro p hp
  rcases List.mem_append.mp hp with q | q
  · exact h1 p (List.mem_append_left _ q)
  · rcases List.mem_append.mp q with q | q
    · exact h1 p (List.mem_append_right _ q)
    · exact h p (List.mem_append_right _ (List.mem_append_right _ q))
theorem sub_it2 {x : Addr × Obj} {a b n : Led} : ∀ p ∈ x :: (a ++ (b ++ n)), p ∈ a ++ (b ++ (x :: n)) := by
  intro p hp
  simp only [List.mem_append, List.mem_cons] at hp ⊢
  rcases hp with h | h | h | h <;> simp only [h, true_or, or_true]
theorem sub_it {x : Addr × Obj} {a b n : Led} : ∀ p ∈ a ++ (b ++ (x :: n)), p ∈ x :: (a ++ (b ++ n)) := by
  intro p hp
  simp only [List.mem_append, List.mem_cons] at hp ⊢
  rcases hp with h | h | h | h <;> simp only [h, true_or, or_true]
theorem Tab.grown {P : Addr} {pos : Pos} {qual : Str} {tb l : Led} {g h : Heap} {L : Addr} (hT : Tab P pos qual tb) (N : News g L h l) (hs : ∀ p ∈ tb, p ∈ l) : GrownAt P h := by
  cases hT with
  | cold => exact GrownAt.of N (hs _ (.head _))
  | warm _ _ _ => exact GrownAt.of N (hs _ (.head _))
theorem law1 : PySem.Challenge.rw_nb0143_01.Holds := hd (by
  k_go0
  all_goals try k_fold
  rename IntsAre _ _ => hI
  rename Below _ _ _ _ => B
  rename Frag.In _ (ghostOf _ _) => X
  rename Top _ _ _ _ _ (ghostOf _ _) => T
  rename (¬ _ < _) => hlen
  rename List Int => ns
  repeat' (first | ((fail_if_success (with_reducible show wpAny _ _ (call (Value.ref _) _) _ _ _)); first | (k_unfold; (try dsimp only)) | walk1 | (dsimp only; walk1) | (leave1; walk_say "STEP leave1"; try dsimp only)) | fail "no step")
  refine CallOkH.use (pieces_ok _ hI (by omega)) B (by assumption) X (by assumption) (ListAt.of (by assumption)) T rfl (by decide) (by decide) ?_
  rintro r news' h' tk' F1 N1 ⟨lp, vp, tps, e, rfl, hP, rfl, hne, hl1, hl2⟩
  have hG : Good (piecesOf ns) := good_pieces _ _
  have hpl : (piecesOf ns).length ≤ 11 := by simp [piecesOf]; omega
  generalize piecesOf ns = pcs at *
  have hok := hG.ok
  have hvl := hP.len
  repeat' (first | ((fail_if_success (with_reducible show wpAny _ _ (call (Value.ref _) _) _ _ _)); (fail_if_success (with_reducible show wpAny _ _ (eval (Expr.ListComp _ _ _ _) _) _ _ _)); first | (k_unfold; (try dsimp only)) | walk1 | (dsimp only; walk1) | (leave1; walk_say "STEP leave1"; try dsimp only)) | fail "no step")
  rename Fr _ _ _ _ => F2; rename News _ _ _ _ => N2
  refine LCp.ListComp_P (F₀ := F2) (by with_unfolding_all rfl) (by decide) (by rfl) (by decide) (by rfl) (by rfl) (by decide) ?_
  repeat' (first | ((fail_if_success (with_reducible show LCp.SrcLP _ _ _ _ _ _ _ _ _ _ _ _ _ _ _)); (fail_if_success (with_reducible show LCg.CompSrc _ _ _ _ _ _ _ _ _ _ _ _ _ _)); first | (k_unfold; (try dsimp only)) | walk1 | (dsimp only; walk1) | (leave1; walk_say "STEP leave1"; try dsimp only)) | fail "no step")
  rename Fr _ _ _ _ => F3; rename News _ _ _ _ => N3
  refine LCp.SrcLP.ledger (by rfl) F3 N3 (.head _) (by show vp.length ≤ _; rw [hvl]; exact Nat.le_trans hpl (by decide)) ?_
  intro g'
  refine compRestP_of (fun i ys nw => nw = (lp, listOf vp.toArray e) :: (tps ++ [(69, tabObj #[]), (62, tabObj #[])]) ∧ StrsAre ys ((pcs.take i).map pieceText)) vp.length ?_ ?_ _ 0 [] _ (by simp) ⟨rfl, .nil⟩
  · rintro i ys nw v hi hv ⟨rfl, hS⟩
    obtain ⟨a, r, x, u1, u2, rfl, hpi, hmem⟩ := hP.at (by simpa using hv)
    obtain ⟨hr0, hr1, hx1⟩ := hok _ (List.mem_of_getElem? hpi)
    refine ⟨a, pobj r x u1 u2, .int r u1, .str x u2, 0, rfl, .tail _ (List.mem_append_left _ hmem), rfl, rfl, ?_⟩
    intro I oI C oC D m₂ h tk E' hC hx hy F N off ne
    repeat' (first | ((fail_if_success (with_reducible show LCg.CompEnd _ _ _ _ _ _ _ _ _ _ _ _ _ _)); first | (k_unfold; (try dsimp only)) | walk1 | (dsimp only; walk1) | (leave1; walk_say "STEP leave1"; try dsimp only)) | fail "no step")
    refine LCg.CompEnd.intro (by assumption) (by assumption) _ (fun _ h => h) off (.inr ⟨_, .head _, rfl, _, rfl⟩) ⟨rfl, ?_⟩
    rw [take_map hpi]
    exact strs_piece hS
  rintro ys nw ⟨rfl, hS⟩ D h tk F4 N4 off4
  rw [hvl, List.take_length] at hS
  dsimp only
  repeat' (first | ((fail_if_success (with_reducible show wpAny _ _ (call (Value.builtin "str.join") _) _ _ _)); first | (k_unfold; (try dsimp only)) | walk1 | (dsimp only; walk1) | (leave1; walk_say "STEP leave1"; try dsimp only)) | fail "no step")
  refine join_list (News.isList (by assumption) (.head _)) (by simpa using hS) (by have := sum_texts hok; simp only [List.length_map]; have e0 : (Str.ofString "").length = 0 := rfl; rw [e0]; omega) ?_
  intro t9 k9
  rw [join_told]
  have N5 := led_of N4 sub_law
  have hTt0 := tabs_cold
  have hmem : (lp, listOf vp.toArray e) ∈ (D, LCg.lst ys) :: (lp, listOf vp.toArray e) :: tps := .tail _ (.head _)
  have hsub : ∀ p ∈ tps, p ∈ (D, LCg.lst ys) :: (lp, listOf vp.toArray e) :: tps := fun p hp => .tail _ (.tail _ hp)
  have hOff : OffTabs ((D, LCg.lst ys) :: (lp, listOf vp.toArray e) :: tps) := off_law off4 hl1 hl2
  clear N4
  generalize (D, LCg.lst ys) :: (lp, listOf vp.toArray e) :: tps = nw at N5 hmem hsub hOff
  generalize [((62 : Addr), tabObj #[])] = tb1 at N5 hTt0
  generalize [((69 : Addr), tabObj #[])] = tb2 at N5 hTt0
  have hlS : ∀ pw, (S (toldOf pw pcs)).length ≤ 275 := fun pw => by have := told_len (pw := pw) hG; rw [S_len]; omega
  have hl1' := hlS 1; have hl2' := hlS 2; have hl4' := hlS 4; have hl8' := hlS 8; have hl16' := hlS 16; have hl32' := hlS 32
  repeat' (first | ((fail_if_success (with_reducible show wpAny _ _ (call (Value.ref _) _) _ _ _)); first | (k_unfold; (try dsimp only)) | walk1 | (dsimp only; walk1) | (leave1; walk_say "STEP leave1"; try dsimp only)) | fail "no step")
  rw [open_app]
  refine CallOk.use (parse257_ok _ _ _ _ (by have := told_len (pw := 1) hG; omega)) B (by assumption) X (by assumption) T rfl (by decide) (by decide) ?_
  rintro r9 news9 h9 tk9 F9 N9 ⟨rfl, t8, hr⟩
  have hr2 : r9 = .str (S (toldOf 2 pcs)) t8 := hr.trans (by rw [rd_told (pw := 1) (by decide) hG]; rfl)
  subst hr2
  clear hr
  repeat' (first | ((fail_if_success (with_reducible show wpAny _ _ (call (Value.ref _) _) _ _ _)); first | (k_unfold; (try dsimp only)) | walk1 | (dsimp only; walk1) | (leave1; walk_say "STEP leave1"; try dsimp only)) | fail "no step")
  rename News _ _ _ _ => N4
  rename (∀ p ∈ _ ++ _, _ < _) => lI
  have nI0 := fun p hp => Nat.ne_of_lt (lI p hp)
  refine CallOk.use (told_ok _ (pw := 2) (by decide) (by decide) (List.mem_cons_of_mem _ hmem) hP (fun p hp => List.mem_cons_of_mem _ (hsub p hp)) hok (by omega) hTt0 (off_it nI0 hTt0 hOff)) B (by assumption) X (led_of N4 sub_it) T rfl (by decide) (by decide) ?_
  clear N4
  rintro r9 news9 h9 tk9 F9 N9 ⟨t9, tb1, tb2, rfl, hTt1, hUp, rfl⟩
  have nI1 := ne_it nI0 hUp
  have N10 := led_of N9 sub_it2
  clear N9 hUp
  repeat' (first | ((fail_if_success (with_reducible show wpAny _ _ (compareOp _ _ _) _ _ _)); first | (k_unfold; (try dsimp only)) | walk1 | (dsimp only; walk1) | (leave1; walk_say "STEP leave1"; try dsimp only)) | fail "no step")
  refine ne_str ?_
  rw [bne_self_eq_false]
  repeat' (first | ((fail_if_success (with_reducible show UnrEnd _ _ _ _ _ _ _)); first | (k_unfold; (try dsimp only)) | walk1 | (dsimp only; walk1) | (leave1; walk_say "STEP leave1"; try dsimp only)) | fail "no step")
  refine UnrEnd.intro F9 N10 _ (fun _ h => h) nI1 ?_
  clear F9 N10
  repeat' (first | ((fail_if_success (with_reducible show wpAny _ _ (call (Value.ref _) _) _ _ _)); first | (k_unfold; (try dsimp only)) | walk1 | (dsimp only; walk1) | (leave1; walk_say "STEP leave1"; try dsimp only)) | fail "no step")
  rw [open_app]
  refine CallOk.use (parse257_ok _ _ _ _ (by have := told_len (pw := 2) hG; omega)) B (by assumption) X (by assumption) T rfl (by decide) (by decide) ?_
  rintro r9 news9 h9 tk9 F9 N9 ⟨rfl, t8, hr⟩
  have hr2 : r9 = .str (S (toldOf 4 pcs)) t8 := hr.trans (by rw [rd_told (pw := 2) (by decide) hG]; rfl)
  subst hr2
  clear hr
  repeat' (first | ((fail_if_success (with_reducible show wpAny _ _ (call (Value.ref _) _) _ _ _)); first | (k_unfold; (try dsimp only)) | walk1 | (dsimp only; walk1) | (leave1; walk_say "STEP leave1"; try dsimp only)) | fail "no step")
  rename News _ _ _ _ => N4
  refine CallOk.use (told_ok _ (pw := 4) (by decide) (by decide) (List.mem_cons_of_mem _ hmem) hP (fun p hp => List.mem_cons_of_mem _ (hsub p hp)) hok (by omega) hTt1 (off_it nI1 hTt1 hOff)) B (by assumption) X (led_of N4 sub_it) T rfl (by decide) (by decide) ?_
  clear N4
  rintro r9 news9 h9 tk9 F9 N9 ⟨t9, tb1, tb2, rfl, hTt2, hUp, rfl⟩
  have nI2 := ne_it nI1 hUp
  have N10 := led_of N9 sub_it2
  clear N9 hUp
  repeat' (first | ((fail_if_success (with_reducible show wpAny _ _ (compareOp _ _ _) _ _ _)); first | (k_unfold; (try dsimp only)) | walk1 | (dsimp only; walk1) | (leave1; walk_say "STEP leave1"; try dsimp only)) | fail "no step")
  refine ne_str ?_
  rw [bne_self_eq_false]
  repeat' (first | ((fail_if_success (with_reducible show UnrEnd _ _ _ _ _ _ _)); first | (k_unfold; (try dsimp only)) | walk1 | (dsimp only; walk1) | (leave1; walk_say "STEP leave1"; try dsimp only)) | fail "no step")
  refine UnrEnd.intro F9 N10 _ (fun _ h => h) nI2 ?_
  clear F9 N10
  repeat' (first | ((fail_if_success (with_reducible show wpAny _ _ (call (Value.ref _) _) _ _ _)); first | (k_unfold; (try dsimp only)) | walk1 | (dsimp only; walk1) | (leave1; walk_say "STEP leave1"; try dsimp only)) | fail "no step")
  rw [open_app]
  refine CallOk.use (parse257_ok _ _ _ _ (by have := told_len (pw := 4) hG; omega)) B (by assumption) X (by assumption) T rfl (by decide) (by decide) ?_
  rintro r9 news9 h9 tk9 F9 N9 ⟨rfl, t8, hr⟩
  have hr2 : r9 = .str (S (toldOf 8 pcs)) t8 := hr.trans (by rw [rd_told (pw := 4) (by decide) hG]; rfl)
  subst hr2
  clear hr
  repeat' (first | ((fail_if_success (with_reducible show wpAny _ _ (call (Value.ref _) _) _ _ _)); first | (k_unfold; (try dsimp only)) | walk1 | (dsimp only; walk1) | (leave1; walk_say "STEP leave1"; try dsimp only)) | fail "no step")
  rename News _ _ _ _ => N4
  refine CallOk.use (told_ok _ (pw := 8) (by decide) (by decide) (List.mem_cons_of_mem _ hmem) hP (fun p hp => List.mem_cons_of_mem _ (hsub p hp)) hok (by omega) hTt2 (off_it nI2 hTt2 hOff)) B (by assumption) X (led_of N4 sub_it) T rfl (by decide) (by decide) ?_
  clear N4
  rintro r9 news9 h9 tk9 F9 N9 ⟨t9, tb1, tb2, rfl, hTt3, hUp, rfl⟩
  have nI3 := ne_it nI2 hUp
  have N10 := led_of N9 sub_it2
  clear N9 hUp
  repeat' (first | ((fail_if_success (with_reducible show wpAny _ _ (compareOp _ _ _) _ _ _)); first | (k_unfold; (try dsimp only)) | walk1 | (dsimp only; walk1) | (leave1; walk_say "STEP leave1"; try dsimp only)) | fail "no step")
  refine ne_str ?_
  rw [bne_self_eq_false]
  repeat' (first | ((fail_if_success (with_reducible show UnrEnd _ _ _ _ _ _ _)); first | (k_unfold; (try dsimp only)) | walk1 | (dsimp only; walk1) | (leave1; walk_say "STEP leave1"; try dsimp only)) | fail "no step")
  refine UnrEnd.intro F9 N10 _ (fun _ h => h) nI3 ?_
  clear F9 N10
  repeat' (first | ((fail_if_success (with_reducible show wpAny _ _ (call (Value.ref _) _) _ _ _)); first | (k_unfold; (try dsimp only)) | walk1 | (dsimp only; walk1) | (leave1; walk_say "STEP leave1"; try dsimp only)) | fail "no step")
  rw [open_app]
  refine CallOk.use (parse257_ok _ _ _ _ (by have := told_len (pw := 8) hG; omega)) B (by assumption) X (by assumption) T rfl (by decide) (by decide) ?_
  rintro r9 news9 h9 tk9 F9 N9 ⟨rfl, t8, hr⟩
  have hr2 : r9 = .str (S (toldOf 16 pcs)) t8 := hr.trans (by rw [rd_told (pw := 8) (by decide) hG]; rfl)
  subst hr2
  clear hr
  repeat' (first | ((fail_if_success (with_reducible show wpAny _ _ (call (Value.ref _) _) _ _ _)); first | (k_unfold; (try dsimp only)) | walk1 | (dsimp only; walk1) | (leave1; walk_say "STEP leave1"; try dsimp only)) | fail "no step")
  rename News _ _ _ _ => N4
  refine CallOk.use (told_ok _ (pw := 16) (by decide) (by decide) (List.mem_cons_of_mem _ hmem) hP (fun p hp => List.mem_cons_of_mem _ (hsub p hp)) hok (by omega) hTt3 (off_it nI3 hTt3 hOff)) B (by assumption) X (led_of N4 sub_it) T rfl (by decide) (by decide) ?_
  clear N4
  rintro r9 news9 h9 tk9 F9 N9 ⟨t9, tb1, tb2, rfl, hTt4, hUp, rfl⟩
  have nI4 := ne_it nI3 hUp
  have N10 := led_of N9 sub_it2
  clear N9 hUp
  repeat' (first | ((fail_if_success (with_reducible show wpAny _ _ (compareOp _ _ _) _ _ _)); first | (k_unfold; (try dsimp only)) | walk1 | (dsimp only; walk1) | (leave1; walk_say "STEP leave1"; try dsimp only)) | fail "no step")
  refine ne_str ?_
  rw [bne_self_eq_false]
  repeat' (first | ((fail_if_success (with_reducible show UnrEnd _ _ _ _ _ _ _)); first | (k_unfold; (try dsimp only)) | walk1 | (dsimp only; walk1) | (leave1; walk_say "STEP leave1"; try dsimp only)) | fail "no step")
  refine UnrEnd.intro F9 N10 _ (fun _ h => h) nI4 ?_
  clear F9 N10
  repeat' (first | ((fail_if_success (with_reducible show wpAny _ _ (call (Value.ref _) _) _ _ _)); first | (k_unfold; (try dsimp only)) | walk1 | (dsimp only; walk1) | (leave1; walk_say "STEP leave1"; try dsimp only)) | fail "no step")
  rw [open_app]
  refine CallOk.use (parse257_ok _ _ _ _ (by have := told_len (pw := 16) hG; omega)) B (by assumption) X (by assumption) T rfl (by decide) (by decide) ?_
  rintro r9 news9 h9 tk9 F9 N9 ⟨rfl, t8, hr⟩
  have hr2 : r9 = .str (S (toldOf 32 pcs)) t8 := hr.trans (by rw [rd_told (pw := 16) (by decide) hG]; rfl)
  subst hr2
  clear hr
  repeat' (first | ((fail_if_success (with_reducible show wpAny _ _ (call (Value.ref _) _) _ _ _)); first | (k_unfold; (try dsimp only)) | walk1 | (dsimp only; walk1) | (leave1; walk_say "STEP leave1"; try dsimp only)) | fail "no step")
  rename News _ _ _ _ => N4
  refine CallOk.use (told_ok _ (pw := 32) (by decide) (by decide) (List.mem_cons_of_mem _ hmem) hP (fun p hp => List.mem_cons_of_mem _ (hsub p hp)) hok (by omega) hTt4 (off_it nI4 hTt4 hOff)) B (by assumption) X (led_of N4 sub_it) T rfl (by decide) (by decide) ?_
  clear N4
  rintro r9 news9 h9 tk9 F9 N9 ⟨t9, tb1, tb2, rfl, hTt5, hUp, rfl⟩
  have nI5 := ne_it nI4 hUp
  have N10 := led_of N9 sub_it2
  clear N9 hUp
  repeat' (first | ((fail_if_success (with_reducible show wpAny _ _ (compareOp _ _ _) _ _ _)); first | (k_unfold; (try dsimp only)) | walk1 | (dsimp only; walk1) | (leave1; walk_say "STEP leave1"; try dsimp only)) | fail "no step")
  refine ne_str ?_
  rw [bne_self_eq_false]
  repeat' (first | ((fail_if_success (with_reducible show UnrEnd _ _ _ _ _ _ _)); first | (k_unfold; (try dsimp only)) | walk1 | (dsimp only; walk1) | (leave1; walk_say "STEP leave1"; try dsimp only)) | fail "no step")
  refine UnrEnd.intro F9 N10 _ (fun _ h => h) nI5 ?_
  clear F9 N10
  iterate 5 (first | (k_unfold; (try dsimp only)) | walk1 | (dsimp only; walk1))
  · k_end
    wrow_close
  · rename News _ _ _ _ => N4
    exact ⟨hTt5.t2.grown N4 (fun p hp => List.mem_append_right _ (List.mem_append_left _ hp)), hTt5.t1.grown N4 (fun p hp => List.mem_append_left _ hp), trivial⟩
  )
end Mine

end
set_option maxRecDepth 100000 in
set_option maxHeartbeats 8000000 in
theorem PySem.Challenge.cw_nb0143_01_holds : PySem.Challenge.rw_nb0143_01.Holds := by
  exact Mine.law1
