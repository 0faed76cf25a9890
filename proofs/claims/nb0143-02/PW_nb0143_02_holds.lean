import PyProof.Rows.All
import Wide.All
import OpenK.AllK
import Wide.FinOn
import PySem.Challenge.RW_nb0143_02
open PySem PySem.W PyProof.Rows
set_option Elab.async false
set_option linter.all false
section
namespace Mine
abbrev Led := List (Addr × Obj)
def CallOk (prog : Program) (w : World) (K : Frag) (f : Addr) (vs : List Value) (dep uni : Nat) (news : Led) (Post : Value → Led → Prop) : Prop :=
  ∀ (p : Program) (loose : List Str) (mean : ExcName → Option Value) (mg mb : Str → Option Value) (dp un : Nat) (gd : Option (List Code)) (cn : Str) (cs : Scope) (a : Addr) (ccd : Value) (cl : List (Str × Addr)) (outer : List Env) (A₀ : Around) (base h₀ : Heap) (L : Addr) (m : Str → Option Value) (s : Shared) (Q E : Value → Shared → Prop),
    Below A₀ base outer h₀ → Fr h₀ L s.heap m → K.In h₀ → News h₀ L s.heap news → Top p loose mean mg mb h₀ → cs.kind = .function → dp + dep < recursionLimit → un + uni < cLine →
    (∀ r news' h' tk', Fr h₀ L h' m → News h₀ L h' news' → Post r news' → Q r { s with heap := h', toks := tk' }) →
    wpAny (model prog w) (ktrTop dp un gd cn cs L a ccd cl outer) (call (.ref f) vs) Q E s

/-- a text of these code points -/
def S (l : List Nat) : Str := ⟨l.toArray⟩
theorem S_toList (x : Str) : x = S x.cps.toList := by cases x; simp [S]
theorem S_len (l : List Nat) : (S l).length = l.length := by simp [S, Str.length]
theorem S_app (l k : List Nat) : S l ++ S k = S (l ++ k) := by
  show Str.append _ _ = _
  simp [S, Str.append]
theorem S_inj {l k : List Nat} : S l = S k ↔ l = k := by
  constructor
  · intro h
    have := congrArg (fun x : Str => x.cps.toList) h
    simpa [S] using this
  · intro h; rw [h]
theorem S_lit {s : String} {l : List Nat} (h : s.toList.map Char.toNat = l) : Str.ofString s = S l := by
  rw [Str.ofString_eq_toList, h]; rfl
theorem slice_to {l : List Nat} {j : Int} (h0 : 0 ≤ j) (h2 : j ≤ l.length) : Txt.slice (S l) none (some j) = S (l.take j.toNat) := by
  have := eq_of_beq (slice_closes_toL (x := S l) h0 (by rw [S_len]; exact h2))
  rw [this]; simp [S]
theorem slice_mid {l : List Nat} {i j : Int} (h0 : 0 ≤ i) (h1 : i ≤ j) (h2 : j ≤ l.length) : Txt.slice (S l) (some i) (some j) = S ((l.drop i.toNat).take (j - i).toNat) := by
  have := eq_of_beq (slice_closesL (x := S l) h0 h1 (by rw [S_len]; exact h2))
  rw [this]; simp [S]
theorem slice_from {l : List Nat} {i : Int} (h0 : 0 ≤ i) (h2 : i ≤ l.length) : Txt.slice (S l) (some i) none = S (l.drop i.toNat) := by
  have := eq_of_beq (slice_closes_fromL (x := S l) (b := l.length) h0 (by rw [S_len]; exact h2) (by rw [S_len]))
  rw [this]; simp [S]
  have : (l.drop i.toNat).length = l.length - i.toNat := by simp
  rw [List.take_of_length_le]
  omega
theorem item_S {l : List Nat} {i : Int} (h0 : 0 ≤ i) (h2 : i < l.length) : Txt.item (S l) i = S [l.getD i.toNat 0] := by
  unfold Txt.item Txt.charAt seqIndex?
  have e : (S l).cps = l.toArray := rfl
  have hl : (S l).length = l.length := S_len l
  simp only [hl, e]
  have h3 : ¬ i < 0 := by omega
  simp [h3, h0, h2, S, List.getD]

/-- what parse257 reads behind the opening quote -/
def rd : List Nat → List Nat
  | [] => []
  | c :: r => if c = 34 then (match r with | [] => [] | d :: r' => if d = 34 then 34 :: rd r' else []) else c :: rd r
theorem rd_nil : rd [] = [] := by rw [rd]
theorem rd_q1 : rd [34] = [] := by rw [rd]; simp
theorem rd_qq (r : List Nat) : rd (34 :: 34 :: r) = 34 :: rd r := by rw [rd]; simp
theorem rd_qc {c : Nat} (r : List Nat) (h : c ≠ 34) : rd (34 :: c :: r) = [] := by rw [rd.eq_def]; simp [h]
theorem rd_c {c : Nat} (r : List Nat) (h : c ≠ 34) : rd (c :: r) = c :: rd r := by rw [rd.eq_def]; simp [h]
def Ends (g : Heap) (L : Addr) (s : Shared) (Post : Value → Led → Prop) (fl : Flow) (s' : Shared) : Prop :=
  ∃ m' news' h' tk', s' = { s with heap := h', toks := tk' } ∧ Fr g L h' m' ∧ News g L h' news' ∧ Post (match fl with | .ret v => v | _ => .none) news'
theorem Ends.intro {g : Heap} {L : Addr} {s : Shared} {Post : Value → Led → Prop} {fl : Flow} {m' : Str → Option Value} {news' : Led} {h' : Heap} {tk' : Nat}
    (F : Fr g L h' m') (N : News g L h' news') (hp : Post (match fl with | .ret v => v | _ => .none) news') : Ends g L s Post fl { s with heap := h', toks := tk' } :=
  ⟨m', news', h', tk', rfl, F, N, hp⟩

/-- the body of a def, in a frame of its own -/
def BodyOk (prog : Program) (w : World) (K : Frag) (qual : Str) (scope : Scope) (f : Addr) (cdv : Value) (cl : List (Str × Addr)) (body : List Stmt) (binds : List (Str × Value)) (dep uni : Nat) (news : Led) (Post : Value → Led → Prop) : Prop :=
  ∀ (p : Program) (loose : List Str) (mean : ExcName → Option Value) (mg mb : Str → Option Value) (dp un : Nat) (gd : Option (List Code)) (outer : List Env) (A₀ : Around) (base g : Heap) (L : Addr) (s : Shared),
    Below A₀ base outer g → Fr g L s.heap (fun y => binds.reverse.lookup y) → K.In g → News g L s.heap news → (∀ p ∈ news, p.1 < L) → Top p loose mean mg mb g → dp + dep < recursionLimit → un + uni < cLine →
    wpAny (model prog w) (ktrTop dp un gd qual scope L f cdv cl outer) (execs body (envX qual scope L f cdv cl)) (Ends g L s Post) (fun _ _ => False) s

theorem callOk_of_body {prog : Program} {w : World} {K : Frag} {f : Addr} {vs : List Value} {dep uni : Nat} {news : Led} {Post : Value → Led → Prop}
    {name qual : Str} {params : Arguments} {body : List Stmt} {scope : Scope} {dV kV doc pm cdv ct oc : Value} {an od : Option Addr} {osl : Array (Option Value)} (binds : List (Str × Value))
    (ho : K.lookup f = some ⟨oc, od, .func (fnOf name qual params body scope dV kV doc pm an cdv ct), osl⟩) (hcd : codeIn K cdv qual = true)
    (hbind : ∀ s, BindsTo s (fnOf name qual params body scope dV kV doc pm an cdv ct) ⟨vs, []⟩ binds) (hloc : ∀ y ∈ binds, scope.names.lookup y.1 = some .local)
    (h : BodyOk prog w K qual scope f cdv [] body binds dep uni news Post)
    (hco : scope.isCoroutine = false) (hgen : scope.isGenerator = false) (hk : scope.kind = .function)
    (hcell : ∀ x ∈ scope.names, x.2 ≠ .cell) : CallOk prog w K f vs (dep + 1) (uni + 3) news Post := by
  intro p loose mean mg mb dp un gd cn cs a ccd cl outer A₀ base h₀ L m s Q E B F X N T hkc hd hu hret
  refine wpAny_call ?_
  refine callX_plain (cl := []) (binds := binds) (env := envX cn cs L a ccd cl) B F N T.nolimit rfl rfl hkc ((X.keeps F.keep) _ _ ho) rfl (codeRec_of (X.keeps F.keep) hcd) (by show dp < recursionLimit; omega) (hbind s) hloc (fun g L' h₁ FG F' N' B' st lt => ?_) hcell hco hgen hk
  refine wpAny_mono (h p loose mean mg mb (dp + 1) (un + 3) gd (envX cn cs L a ccd cl :: outer) _ base g L' { s with heap := h₁, toks := s.toks + binds.length } B' F' (X.keeps st) N' lt (T.keeps st) (by omega) (by omega)) (fun fl s' hl => ?_) (fun _ _ e => e.elim)
  obtain ⟨m', news', h', tk', rfl, F2, N2, hp⟩ := hl
  refine leaveK_ F2 N2 fun F3 N3 => ?_
  exact hret _ _ _ _ F3 N3 hp

theorem CallOk.use {prog : Program} {w : World} {K : Frag} {f : Addr} {vs : List Value} {dep uni : Nat} {news : Led} {Post : Value → Led → Prop}
    {p : Program} {loose : List Str} {mean : ExcName → Option Value} {mg mb : Str → Option Value} {dp un : Nat} {gd : Option (List Code)} {cn : Str} {cs : Scope} {a : Addr} {ccd : Value} {cl : List (Str × Addr)} {outer : List Env} {A₀ : Around} {base h₀ : Heap} {L : Addr} {m : Str → Option Value} {s : Shared} {Q E : Value → Shared → Prop}
    (C : CallOk prog w K f vs dep uni news Post) (B : Below A₀ base outer h₀) (F : Fr h₀ L s.heap m) (X : K.In h₀) (N : News h₀ L s.heap news) (T : Top p loose mean mg mb h₀) (hk : cs.kind = .function) (hd : dp + dep < recursionLimit) (hu : un + uni < cLine)
    (ret : ∀ r news' h' tk', Fr h₀ L h' m → News h₀ L h' news' → Post r news' → Q r { s with heap := h', toks := tk' }) :
    wpAny (model prog w) (ktrTop dp un gd cn cs L a ccd cl outer) (call (.ref f) vs) Q E s :=
  C p loose mean mg mb dp un gd cn cs a ccd cl outer A₀ base h₀ L m s Q E B F X N T hk hd hu ret
/-- the text parse257 gets, and what holds between the turns of its loop -/
def opening : List Nat := [50, 53, 55, 32, 34]
def PInv (t : List Nat) (i : Int) (d : Str) : Prop := 5 ≤ i ∧ i ≤ t.length + 5 ∧ (d.length : Int) ≤ i ∧ d.cps.toList ++ rd (t.drop (i - 5).toNat) = rd t
theorem item_open {t : List Nat} {i : Int} (h1 : 5 ≤ i) (h2 : i < (S (opening ++ t)).length) : ∃ c r, t.drop (i - 5).toNat = c :: r ∧ Txt.item (S (opening ++ t)) i = S [c] ∧ t.drop (i + 1 - 5).toNat = r := by
  rw [S_len] at h2
  have h3 : (opening ++ t).length = t.length + 5 := by simp [opening]
  have h4 : (i - 5).toNat < t.length := by omega
  refine ⟨t[(i - 5).toNat], t.drop ((i - 5).toNat + 1), List.drop_eq_getElem_cons h4, ?_, ?_⟩
  · rw [item_S (by omega) (by omega)]
    congr 1
    have h5 : i.toNat - opening.length = (i - 5).toNat := by simp [opening]; omega
    rw [List.getD_eq_getElem?_getD, List.getElem?_append_right (by simp [opening]; omega), h5, List.getElem?_eq_getElem h4]; rfl
  · congr 1; omega
theorem quote_lit : Str.ofString "\"" = S [34] := S_lit rfl
theorem S1_eq {c d : Nat} : (S [c] == S [d]) = decide (c = d) := by
  by_cases h : c = d
  · subst h; simp
  · have : ¬ S [c] = S [d] := fun e => h (by simpa using S_inj.mp e)
    simp [h, this]
theorem S1_ne {c d : Nat} : (S [c] != S [d]) = !decide (c = d) := by rw [bne, S1_eq]
theorem cps_app (a b : Str) : (a ++ b).cps.toList = a.cps.toList ++ b.cps.toList := by
  show (Str.append a b).cps.toList = _
  simp [Str.append]
theorem len_app (a b : Str) : (a ++ b).length = a.length + b.length := by
  show (Str.append a b).cps.size = _
  simp [Str.append, Str.length]
theorem S_cps (l : List Nat) : (S l).cps.toList = l := by simp [S]
theorem str_of_list {d : Str} {l : List Nat} (h : d.cps.toList = l) : d = S l := by rw [S_toList d, h]
section
variable {t : List Nat} {i : Int} {d : Str} {R : Str}
theorem PInv.char (hR : S (opening ++ t) = R) (h : PInv t i d) (hi : i < (R.length : Int)) (hq : (Txt.item R i == Str.ofString "\"") = false) : PInv t (i + 1) (d ++ Txt.item R i) := by
  subst hR
  obtain ⟨h1, h2, h3, h4⟩ := h
  obtain ⟨c, r, e1, e2, e3⟩ := item_open h1 hi
  have hl : (S (opening ++ t)).length = t.length + 5 := by rw [S_len]; simp [opening]
  rw [e2, quote_lit, S1_eq] at hq
  have hc : c ≠ 34 := by simpa using hq
  refine ⟨by omega, by omega, ?_, ?_⟩
  · rw [len_app, e2, S_len]; simp; omega
  · rw [cps_app, e2, e3, S_cps, ← h4, e1, rd_c _ hc]; simp
theorem PInv.quotes (hR : S (opening ++ t) = R) (h : PInv t i d) (hi : i < (R.length : Int)) (hq : (Txt.item R i == Str.ofString "\"") = true) (hn : ¬ (R.length : Int) ≤ i + 1) (hq2 : (Txt.item R (i + 1) != Str.ofString "\"") = false) : PInv t (i + 1 + 1) (d ++ Txt.item R i) := by
  subst hR
  obtain ⟨h1, h2, h3, h4⟩ := h
  obtain ⟨c, r, e1, e2, e3⟩ := item_open h1 hi
  obtain ⟨c2, r2, f1, f2, f3⟩ := item_open (t := t) (i := i + 1) (by omega) (by omega)
  have hl : (S (opening ++ t)).length = t.length + 5 := by rw [S_len]; simp [opening]
  rw [e2, quote_lit, S1_eq] at hq
  rw [f2, quote_lit, S1_ne] at hq2
  have hc : c = 34 := by simpa using hq
  have hc2 : c2 = 34 := by simpa using hq2
  subst hc hc2
  refine ⟨by omega, by omega, ?_, ?_⟩
  · rw [len_app, e2, S_len]; simp; omega
  · rw [cps_app, e2, f3, S_cps, ← h4, e1, ← e3, f1, rd_qq]; simp
theorem PInv.last (hR : S (opening ++ t) = R) (h : PInv t i d) (hi : i < (R.length : Int)) (hq : (Txt.item R i == Str.ofString "\"") = true) (hn : (R.length : Int) ≤ i + 1) : d = S (rd t) := by
  subst hR
  obtain ⟨h1, h2, h3, h4⟩ := h
  obtain ⟨c, r, e1, e2, e3⟩ := item_open h1 hi
  have hl : (S (opening ++ t)).length = t.length + 5 := by rw [S_len]; simp [opening]
  rw [e2, quote_lit, S1_eq] at hq
  have hc : c = 34 := by simpa using hq
  have hr : r = [] := by rw [← e3]; apply List.drop_eq_nil_of_le; omega
  subst hc hr
  rw [e1, rd_q1, List.append_nil] at h4
  exact str_of_list h4
theorem PInv.shut (hR : S (opening ++ t) = R) (h : PInv t i d) (hi : i < (R.length : Int)) (hq : (Txt.item R i == Str.ofString "\"") = true) (hn : ¬ (R.length : Int) ≤ i + 1) (hq2 : (Txt.item R (i + 1) != Str.ofString "\"") = true) : d = S (rd t) := by
  subst hR
  obtain ⟨h1, h2, h3, h4⟩ := h
  obtain ⟨c, r, e1, e2, e3⟩ := item_open h1 hi
  obtain ⟨c2, r2, f1, f2, f3⟩ := item_open (t := t) (i := i + 1) (by omega) (by omega)
  rw [e2, quote_lit, S1_eq] at hq
  rw [f2, quote_lit, S1_ne] at hq2
  have hc : c = 34 := by simpa using hq
  have hc2 : c2 ≠ 34 := by simpa using hq2
  subst hc
  rw [e1, ← e3, f1, rd_qc _ hc2, List.append_nil] at h4
  exact str_of_list h4
theorem PInv.out (hR : S (opening ++ t) = R) (h : PInv t i d) (hi : ¬ i < (R.length : Int)) : d = S (rd t) := by
  subst hR
  obtain ⟨h1, h2, h3, h4⟩ := h
  have hl : (S (opening ++ t)).length = t.length + 5 := by rw [S_len]; simp [opening]
  have hr : t.drop (i - 5).toNat = [] := by apply List.drop_eq_nil_of_le; omega
  rw [hr, rd_nil, List.append_nil] at h4
  exact str_of_list h4
end
end Mine

end
section
namespace Mine
theorem pow_pos' (k : Nat) : (0 : Int) < 2 ^ k := kbt_pos k
theorem bits_of_lt {x : Int} {k : Nat} (h0 : 0 ≤ x) (h : x < 2 ^ k) : Builtin.Int.intBits x ≤ k := by
  refine intBits_le_iff.mpr ?_
  have : (x.natAbs : Int) < ((2 ^ k : Nat) : Int) := by rw [kbt_cast]; omega
  exact Int.ofNat_lt.mp this
theorem bits_of_lt' {x : Int} {k m : Nat} (h0 : 0 ≤ x) (h : x < 2 ^ k) (hk : k ≤ m) : Builtin.Int.intBits x ≤ m := Nat.le_trans (bits_of_lt h0 h) hk
theorem bitOr_nat (m n : Nat) : Builtin.bitOr (m : Int) (n : Int) = ((m ||| n : Nat) : Int) := by
  unfold Builtin.bitOr Builtin.bitAnd
  have h1 : ¬ (0 ≤ Builtin.bitNot (m : Int)) := by rw [kbt_not]; omega
  have h2 : ¬ (0 ≤ Builtin.bitNot (n : Int)) := by rw [kbt_not]; omega
  simp only [h1, h2, decide_false]
  have e1 : Builtin.bitNot (Builtin.bitNot (m : Int)) = m := by simp only [kbt_not]; omega
  have e2 : Builtin.bitNot (Builtin.bitNot (n : Int)) = n := by simp only [kbt_not]; omega
  rw [e1, e2]
  simp only [kbt_not, Int.toNat_natCast]
  omega
theorem bitAnd_nat (m n : Nat) : Builtin.bitAnd (m : Int) (n : Int) = ((m &&& n : Nat) : Int) := by
  unfold Builtin.bitAnd
  have h1 : (0 : Int) ≤ (m : Int) := by omega
  have h2 : (0 : Int) ≤ (n : Int) := by omega
  simp only [h1, h2, decide_true, Int.toNat_natCast]
theorem or_shift {x y : Int} {k : Nat} (hx : 0 ≤ x) (hy : 0 ≤ y) (h : y < 2 ^ k) : Builtin.bitOr (x * 2 ^ k) y = x * 2 ^ k + y := by
  obtain ⟨m, rfl⟩ := Int.eq_ofNat_of_zero_le hx
  obtain ⟨n, rfl⟩ := Int.eq_ofNat_of_zero_le hy
  have hn : n < 2 ^ k := by rw [← kbt_cast] at h; exact Int.ofNat_lt.mp h
  have e : (m : Int) * 2 ^ k = ((2 ^ k * m : Nat) : Int) := by rw [← kbt_cast, ← Int.natCast_mul, Nat.mul_comm]
  rw [e, bitOr_nat, ← Nat.two_pow_add_eq_or_of_lt hn]
  omega
theorem and_high (u l k : Nat) (h : l < 2 ^ k) : (2 ^ k * u + l) &&& (2 ^ k * u) = 2 ^ k * u := by
  have e1 := Nat.two_pow_add_eq_or_of_lt h u
  rw [e1]
  apply Nat.eq_of_testBit_eq
  intro i
  rw [Nat.testBit_and, Nat.testBit_or]
  cases (2 ^ k * u).testBit i <;> simp
theorem xor_low {x : Int} {k : Nat} (hx : 0 ≤ x) : Builtin.bitXor x (x.fdiv (2 ^ k) * 2 ^ k) = x % 2 ^ k := by
  rw [bitXor_and]
  have hp := pow_pos' k
  rw [Int.fdiv_eq_ediv_of_nonneg _ (Int.le_of_lt hp)]
  obtain ⟨m, rfl⟩ := Int.eq_ofNat_of_zero_le hx
  have e : ((m : Int) / 2 ^ k) * 2 ^ k = ((2 ^ k * (m / 2 ^ k) : Nat) : Int) := by
    rw [← kbt_cast, ← Int.natCast_ediv, ← Int.natCast_mul, Nat.mul_comm]
  rw [e, bitAnd_nat]
  have hl : m % 2 ^ k < 2 ^ k := Nat.mod_lt _ (Nat.two_pow_pos k)
  have h2 := and_high (m / 2 ^ k) (m % 2 ^ k) k hl
  rw [Nat.div_add_mod] at h2
  rw [h2, ← kbt_cast, ← Int.natCast_emod]
  have := Nat.div_add_mod m (2 ^ k)
  omega
theorem fdiv_pow (x : Int) (k : Nat) : x.fdiv (2 ^ k) = x / 2 ^ k := Int.fdiv_eq_ediv_of_nonneg _ (Int.le_of_lt (pow_pos' k))

theorem pos_factor {q b : Int} (hb : 0 < b) (h : 0 < (q + 1) * b) : 0 ≤ q := by
  rcases Int.lt_or_le q 0 with h1 | h1
  · have h2 : (q + 1) * b ≤ 0 * b := Int.mul_le_mul_of_nonneg_right (by omega) (Int.le_of_lt hb)
    rw [Int.zero_mul] at h2; omega
  · exact h1
abbrev pairObj (q r : Int) (t1 t2 : Tok) : Obj := { cls := .type "tuple", data := .seq [.int q t1, .int r t2].toArray }
def DivPost (A b : Int) (news : Led) (r : Value) (news' : Led) : Prop :=
  ∃ ad q rr t1 t2, r = .ref ad ∧ news' = (ad, pairObj q rr t1 t2) :: news ∧ (∀ p ∈ news, p.1 < ad) ∧ q * b + rr = A ∧ 0 ≤ rr ∧ rr < b
structure Pre2 (a b n : Int) : Prop where
  n0 : 0 < n
  n1 : n ≤ 8500
  b0 : 2 ^ (n - 1).toNat ≤ b
  b1 : b < 2 ^ n.toNat
  a0 : 0 ≤ a
  a1 : a < 2 ^ n.toNat * b
structure Pre3 (a12 a3 b b1 b2 n : Int) : Prop where
  n0 : 0 < n
  n1 : n ≤ 8500
  b10 : 2 ^ (n - 1).toNat ≤ b1
  b11 : b1 < 2 ^ n.toNat
  b20 : 0 ≤ b2
  b21 : b2 < 2 ^ n.toNat
  hb : b = b1 * 2 ^ n.toNat + b2
  a30 : 0 ≤ a3
  a31 : a3 < 2 ^ n.toNat
  a0 : 0 ≤ a12
  a1 : a12 < b
section
variable {a12 a3 b b1 b2 n : Int}
theorem Pre3.b1pos (hp : Pre3 a12 a3 b b1 b2 n) : 0 < b1 := Int.lt_of_lt_of_le (pow_pos' _) hp.b10
theorem Pre3.bpos (hp : Pre3 a12 a3 b b1 b2 n) : 0 < b := by
  have h1 := hp.b1pos
  have h2 := Int.mul_pos h1 (pow_pos' n.toNat)
  have h3 := hp.b20
  rw [hp.hb]; omega
theorem Pre3.two (hp : Pre3 a12 a3 b b1 b2 n) (hne : a12.fdiv (2 ^ n.toNat) ≠ b1) : Pre2 a12 b1 n := by
  have hP := pow_pos' n.toNat
  refine ⟨hp.n0, hp.n1, hp.b10, hp.b11, hp.a0, ?_⟩
  rw [fdiv_pow] at hne
  have hne' : a12 / 2 ^ n.toNat ≠ b1 := hne
  have h1 := hp.a1
  rw [hp.hb] at h1
  have h2 := hp.b21
  have h3 : a12 < (b1 + 1) * 2 ^ n.toNat := by rw [Int.add_mul]; omega
  have h4 : a12 / 2 ^ n.toNat < b1 + 1 := Int.ediv_lt_of_lt_mul hP h3
  have h5 : a12 / 2 ^ n.toNat < b1 := by omega
  rw [Int.mul_comm]
  exact Int.lt_mul_of_ediv_lt hP h5
theorem Pre3.bits (hp : Pre3 a12 a3 b b1 b2 n) : Builtin.Int.intBits b1 ≤ 8500 ∧ Builtin.Int.intBits b2 ≤ 8500 ∧ Builtin.Int.intBits b ≤ 17000 ∧ Builtin.Int.intBits a12 ≤ 17000 := by
  have n1 := hp.n1
  have hP := pow_pos' n.toNat
  have hb : b < 2 ^ (n.toNat + n.toNat) := by
    have h2 := hp.b21
    have h3 := hp.b11
    have h4 : b1 * 2 ^ n.toNat + b2 < (b1 + 1) * 2 ^ n.toNat := by rw [Int.add_mul]; omega
    have h5 : (b1 + 1) * 2 ^ n.toNat ≤ 2 ^ n.toNat * 2 ^ n.toNat := Int.mul_le_mul_of_nonneg_right (by omega) (Int.le_of_lt hP)
    rw [hp.hb, Int.pow_add]; omega
  have := hp.bpos
  have := hp.a1
  exact ⟨bits_of_lt' (Int.le_of_lt hp.b1pos) hp.b11 (by omega), bits_of_lt' hp.b20 hp.b21 (by omega), bits_of_lt' (by omega) hb (by omega), bits_of_lt' hp.a0 (by omega) (by omega : n.toNat + n.toNat ≤ 17000)⟩
theorem divBits {q b r a : Int} {m : Nat} (hb : 0 < b) (ha : 0 ≤ a) (hm : Builtin.Int.intBits a ≤ m) (h : q * b + r = a) (h0 : 0 ≤ r) (h1 : r < b) : Builtin.Int.intBits q ≤ m ∧ Builtin.Int.intBits r ≤ m := by
  have hq : 0 ≤ q := pos_factor hb (by rw [Int.add_mul]; omega)
  have h3 : q * 1 ≤ q * b := Int.mul_le_mul_of_nonneg_left (by omega) hq
  have h4 : 0 ≤ q * b := Int.mul_nonneg hq (by omega)
  exact ⟨intBits_le_of_natAbs (by omega) hm, intBits_le_of_natAbs (by omega) hm⟩
/-- the remainder that _div3n2n begins with -/
abbrev r3 (r a3 q b2 n : Int) : Int := Builtin.bitOr (r * 2 ^ n.toNat) a3 - q * b2
theorem Pre3.start {q r : Int} (hp : Pre3 a12 a3 b b1 b2 n) (h : q * b1 + r = a12) (hr : 0 ≤ r) : q * b + r3 r a3 q b2 n = a12 * 2 ^ n.toNat + a3 := by
  unfold r3
  rw [or_shift hr hp.a30 hp.a31, hp.hb, ← h]
  generalize (2 : Int) ^ n.toNat = P
  grind
theorem Pre3.start2 {q r : Int} (hp : Pre3 a12 a3 b b1 b2 n) (h : q * b1 + r = a12) (hr : 0 ≤ r) (hr1 : r < b1) : r3 r a3 q b2 n < b := by
  unfold r3
  rw [or_shift hr hp.a30 hp.a31, hp.hb]
  have hq : 0 ≤ q := by
    have h1 := hp.b1pos
    have h2 := hp.a0
    have h3 : 0 < (q + 1) * b1 := by rw [Int.add_mul]; omega
    exact pos_factor h1 h3
  have h4 := Int.mul_nonneg hq hp.b20
  have h5 : (r + 1) * 2 ^ n.toNat ≤ b1 * 2 ^ n.toNat := Int.mul_le_mul_of_nonneg_right (by omega) (Int.le_of_lt (pow_pos' _))
  have h6 := hp.a31
  have h7 := hp.b20
  rw [Int.add_mul] at h5
  omega
theorem Pre3.start1 (hp : Pre3 a12 a3 b b1 b2 n) (he : a12.fdiv (2 ^ n.toNat) = b1) : 0 ≤ a12 - b1 * 2 ^ n.toNat + b1 ∧ (1 * 2 ^ n.toNat - 1) * b1 + (a12 - b1 * 2 ^ n.toNat + b1) = a12 := by
  rw [fdiv_pow] at he
  have he' : a12 / 2 ^ n.toNat = b1 := he
  have h1 := Int.ediv_mul_le a12 (show (2 : Int) ^ n.toNat ≠ 0 from Int.ne_of_gt (pow_pos' _))
  rw [he'] at h1
  have := hp.b1pos
  refine ⟨by omega, ?_⟩
  generalize (2 : Int) ^ n.toNat = P
  grind
theorem Pre3.less {q r : Int} (hp : Pre3 a12 a3 b b1 b2 n) (hq : q = 1 * 2 ^ n.toNat - 1) (h : q * b + r = a12 * 2 ^ n.toNat + a3) : r < b := by
  have h1 : (a12 + 1) * 2 ^ n.toNat ≤ b * 2 ^ n.toNat := Int.mul_le_mul_of_nonneg_right (by have := hp.a1; omega) (Int.le_of_lt (pow_pos' _))
  have h2 := hp.a31
  rw [hq] at h
  rw [Int.add_mul] at h1
  have h3 : (1 * 2 ^ n.toNat - 1) * b = b * 2 ^ n.toNat - b := by
    generalize (2 : Int) ^ n.toNat = P
    grind
  omega
end
end Mine
namespace Mine
section
variable {a b n : Int}
theorem Pre2.bpos (hp : Pre2 a b n) : 0 < b := Int.lt_of_lt_of_le (pow_pos' _) hp.b0
theorem Pre2.bne (hp : Pre2 a b n) : b ≠ 0 := Int.ne_of_gt hp.bpos
theorem Pre2.py (hp : Pre2 a b n) : Builtin.divisionGoesByPylong a b = false := by
  refine PyProof.noPylong_of_log2 ?_
  have h1 := bits_of_lt (Int.le_of_lt hp.bpos) hp.b1
  unfold Builtin.Int.intBits at h1
  have h2 := hp.bne
  have h3 := hp.n1
  rw [if_neg (by simpa using h2)] at h1
  omega
theorem Pre2.bits (hp : Pre2 a b n) : Builtin.Int.intBits a ≤ 17000 ∧ Builtin.Int.intBits b ≤ 8500 := by
  have n1 := hp.n1
  have h1 : a < 2 ^ (n.toNat + n.toNat) := by
    rw [Int.pow_add]
    exact Int.lt_of_lt_of_le hp.a1 (Int.mul_le_mul_of_nonneg_left (Int.le_of_lt hp.b1) (Int.le_of_lt (pow_pos' _)))
  exact ⟨bits_of_lt' hp.a0 h1 (by omega), bits_of_lt' (Int.le_of_lt hp.bpos) hp.b1 (by omega)⟩
theorem Pre2.twice (hp : Pre2 a b n) : (Builtin.Int.intBits a : Int) ≤ 2 * n := by
  have n0 := hp.n0
  have h1 : a < 2 ^ (n.toNat + n.toNat) := by
    rw [Int.pow_add]
    exact Int.lt_of_lt_of_le hp.a1 (Int.mul_le_mul_of_nonneg_left (Int.le_of_lt hp.b1) (Int.le_of_lt (pow_pos' _)))
  have := bits_of_lt hp.a0 h1
  omega
theorem Pre2.small (hp : Pre2 a b n) (hn : n ≤ 2000 * 2 ^ 0) : (Builtin.Int.intBits a : Int) - n ≤ 4000 := by
  have := hp.twice
  omega
end
end Mine
namespace Mine
section
variable {prog : Program} {w : World} {A : Around} {E : Value → Shared → Prop} {s : Shared} {a n : Int} {t u : Tok} {Q : Value → Shared → Prop}
theorem shl_one (hn : 0 ≤ n) (hn2 : n ≤ 1000000) (h : Q (.int (2 ^ n.toNat) s.toks) { s with toks := s.toks + 1 }) : wpAny (model prog w) A (binaryOp .LShift (.int 1 t) (.int n u)) Q E s :=
  lshift_int_small hn hn2 (by decide) (by rw [Int.one_mul]; exact h)
theorem shl_any {m : Nat} (hn : 0 ≤ n) (hn2 : n ≤ 1000000) (ha : Builtin.Int.intBits a ≤ m) (hm : m ≤ 133000000) (h : Q (.int (a * 2 ^ n.toNat) s.toks) { s with toks := s.toks + 1 }) : wpAny (model prog w) A (binaryOp .LShift (.int a t) (.int n u)) Q E s :=
  lshift_int hn (kbm_shl ha hn2 hm) h
theorem ishl_one {m : Nat} (ha : Builtin.Int.intBits a ≤ m) (hm : m ≤ 133000000) (h : Q (.int (a * 2) s.toks) { s with toks := s.toks + 1 }) : wpAny (model prog w) A (inplaceOp .LShift (.int a t) (.int 1 u)) Q E s :=
  ilshift_int (by decide) (kbm_shl ha (by decide) hm) h
theorem shr_one (h : Q (.int (a / 2) s.toks) { s with toks := s.toks + 1 }) : wpAny (model prog w) A (binaryOp .RShift (.int a t) (.int 1 u)) Q E s :=
  rshift_int (by decide) (by rw [fdiv_pow]; exact h)
theorem ishr_one (h : Q (.int (a / 2) s.toks) { s with toks := s.toks + 1 }) : wpAny (model prog w) A (inplaceOp .RShift (.int a t) (.int 1 u)) Q E s :=
  irshift_int (by decide) (by rw [fdiv_pow]; exact h)
theorem shr_any (hn : 0 ≤ n) (h : Q (.int (a / 2 ^ n.toNat) s.toks) { s with toks := s.toks + 1 }) : wpAny (model prog w) A (binaryOp .RShift (.int a t) (.int n u)) Q E s :=
  rshift_int hn (by rw [fdiv_pow]; exact h)
theorem and_one (h : Q (.int (a % 2) s.toks) { s with toks := s.toks + 1 }) : wpAny (model prog w) A (binaryOp .BitAnd (.int a t) (.int 1 u)) Q E s :=
  and_int (by rw [bitAnd_m1]; exact h)
theorem and_mask {k : Nat} (h : Q (.int (a % 2 ^ k) s.toks) { s with toks := s.toks + 1 }) : wpAny (model prog w) A (binaryOp .BitAnd (.int a t) (.int (2 ^ k - 1) u)) Q E s :=
  and_int (by rw [kbt_mask]; exact h)
theorem or_shifted {x y : Int} {k : Nat} (hx : 0 ≤ x) (hy : 0 ≤ y) (hk : y < 2 ^ k) (h : Q (.int (x * 2 ^ k + y) s.toks) { s with toks := s.toks + 1 }) : wpAny (model prog w) A (binaryOp .BitOr (.int (x * 2 ^ k) t) (.int y u)) Q E s :=
  or_int (by rw [or_shift hx hy hk]; exact h)
end
end Mine
namespace Mine
section
variable {a b n : Int}
theorem pow_half {n : Int} (h0 : 0 < n) (he : n % 2 = 0) : (2 : Int) ^ n.toNat = 2 ^ (n / 2).toNat * 2 ^ (n / 2).toNat := by
  rw [← Int.pow_add]; congr 1; omega
theorem pow_pred {h : Int} (h0 : 0 < h) : (2 : Int) ^ h.toNat = 2 * 2 ^ (h - 1).toNat := by
  have e : h.toNat = (h - 1).toNat + 1 := by omega
  rw [e, Int.pow_succ, Int.mul_comm]
theorem Pre2.halves (hp : Pre2 a b n) (he : n % 2 = 0) (h2 : 2 ≤ n) : 2 ^ (n / 2 - 1).toNat ≤ b / 2 ^ (n / 2).toNat ∧ b / 2 ^ (n / 2).toNat < 2 ^ (n / 2).toNat ∧ 0 ≤ b % 2 ^ (n / 2).toNat ∧ b % 2 ^ (n / 2).toNat < 2 ^ (n / 2).toNat ∧ b = b / 2 ^ (n / 2).toNat * 2 ^ (n / 2).toNat + b % 2 ^ (n / 2).toNat := by
  have hP := pow_pos' (n / 2).toNat
  have hb1 := hp.b1
  have hb0 := hp.b0
  rw [pow_half hp.n0 he] at hb1
  have e : (2 : Int) ^ (n - 1).toNat = 2 ^ (n / 2 - 1).toNat * 2 ^ (n / 2).toNat := by
    rw [← Int.pow_add]; congr 1; omega
  rw [e] at hb0
  refine ⟨(Int.le_ediv_iff_mul_le hP).mpr hb0, Int.ediv_lt_of_lt_mul hP hb1, Int.emod_nonneg _ (Int.ne_of_gt hP), Int.emod_lt_of_pos _ hP, ?_⟩
  have := Int.mul_ediv_add_emod b (2 ^ (n / 2).toNat)
  rw [Int.mul_comm] at this
  exact this.symm
theorem Pre2.first (hp : Pre2 a b n) (he : n % 2 = 0) (h2 : 2 ≤ n) : Pre3 (a / 2 ^ n.toNat) (a / 2 ^ (n / 2).toNat % 2 ^ (n / 2).toNat) b (b / 2 ^ (n / 2).toNat) (b % 2 ^ (n / 2).toNat) (n / 2) := by
  obtain ⟨h3, h4, h5, h6, h7⟩ := hp.halves he h2
  have hP := pow_pos' (n / 2).toNat
  have n1 := hp.n1
  refine ⟨by omega, by omega, h3, h4, h5, h6, h7, Int.emod_nonneg _ (Int.ne_of_gt hP), Int.emod_lt_of_pos _ hP, Int.ediv_nonneg hp.a0 (Int.le_of_lt (pow_pos' _)), ?_⟩
  refine Int.ediv_lt_of_lt_mul (pow_pos' _) ?_
  rw [Int.mul_comm]; exact hp.a1
theorem Pre2.second {r : Int} (hp : Pre2 a b n) (he : n % 2 = 0) (h2 : 2 ≤ n) (hr : 0 ≤ r) (hr1 : r < b) : Pre3 r (a % 2 ^ (n / 2).toNat) b (b / 2 ^ (n / 2).toNat) (b % 2 ^ (n / 2).toNat) (n / 2) := by
  obtain ⟨h3, h4, h5, h6, h7⟩ := hp.halves he h2
  have hP := pow_pos' (n / 2).toNat
  have n1 := hp.n1
  exact ⟨by omega, by omega, h3, h4, h5, h6, h7, Int.emod_nonneg _ (Int.ne_of_gt hP), Int.emod_lt_of_pos _ hP, hr, hr1⟩
theorem Pre2.join {q1 r1 q2 r2 : Int} (hp : Pre2 a b n) (he : n % 2 = 0)
    (e1 : q1 * b + r1 = a / 2 ^ n.toNat * 2 ^ (n / 2).toNat + a / 2 ^ (n / 2).toNat % 2 ^ (n / 2).toNat) (hr0 : 0 ≤ r1) (hr1 : r1 < b)
    (e2 : q2 * b + r2 = r1 * 2 ^ (n / 2).toNat + a % 2 ^ (n / 2).toNat) (hs0 : 0 ≤ r2) (hs1 : r2 < b) :
    0 ≤ q1 ∧ 0 ≤ q2 ∧ q2 < 2 ^ (n / 2).toNat ∧ (q1 * 2 ^ (n / 2).toNat + q2) * b + r2 = a := by
  have hb := hp.bpos
  have hP := pow_pos' (n / 2).toNat
  rw [pow_half hp.n0 he] at e1
  have d1 : a / (2 ^ (n / 2).toNat * 2 ^ (n / 2).toNat) = a / 2 ^ (n / 2).toNat / 2 ^ (n / 2).toNat := by
    rw [Int.ediv_ediv_of_nonneg (Int.le_of_lt hP)]
  rw [d1] at e1
  generalize (2 : Int) ^ (n / 2).toNat = P at *
  have d2 := Int.mul_ediv_add_emod (a / P) P
  have d3 := Int.mul_ediv_add_emod a P
  have m1 := Int.emod_nonneg a (Int.ne_of_gt hP)
  have m2 := Int.emod_lt_of_pos a hP
  have e3 : q1 * b + r1 = a / P := by rw [e1, Int.mul_comm]; exact d2
  have a1 : 0 ≤ a / P := Int.ediv_nonneg hp.a0 (Int.le_of_lt hP)
  have p1 : 0 ≤ r1 * P := Int.mul_nonneg hr0 (Int.le_of_lt hP)
  refine ⟨pos_factor hb (by rw [Int.add_mul]; omega), pos_factor hb (by rw [Int.add_mul]; omega), ?_, ?_⟩
  · have h1 : (r1 + 1) * P ≤ b * P := Int.mul_le_mul_of_nonneg_right (by omega) (Int.le_of_lt hP)
    rw [Int.add_mul] at h1
    have h2 : q2 * b < P * b := by rw [Int.mul_comm P b]; omega
    exact Int.lt_of_mul_lt_mul_right h2 (Int.le_of_lt hb)
  · have h3 : P * (q1 * b + r1) + a % P = a := by rw [e3]; exact d3
    rw [Int.add_mul]
    have h4 : q1 * P * b = P * (q1 * b + r1) - r1 * P := by grind
    omega
theorem Pre2.pad (hp : Pre2 a b n) (ho : n % 2 ≠ 0) : Pre2 (a * 2) (b * 2) (n + 1) := by
  have n0 := hp.n0
  have n1 := hp.n1
  have h0 := hp.b0
  have h1 := hp.b1
  have h2 := hp.a1
  have e1 : (2 : Int) ^ (n + 1).toNat = 2 * 2 ^ n.toNat := by
    rw [pow_pred (h := n + 1) (by omega)]; congr 2; omega
  have e2 : (2 : Int) ^ (n + 1 - 1).toNat = 2 * 2 ^ (n - 1).toNat := by
    rw [show n + 1 - 1 = n by omega, pow_pred n0]
  refine ⟨by omega, by omega, by rw [e2]; omega, by rw [e1]; omega, by have := hp.a0; omega, ?_⟩
  rw [e1]
  generalize (2 : Int) ^ n.toNat = P at *
  have h3 : 2 * P * (b * 2) = 4 * (P * b) := by grind
  have := hp.a0
  omega
theorem unpad {q r a b : Int} (h : q * (b * 2) + r = a * 2) (h0 : 0 ≤ r) (h1 : r < b * 2) : q * b + r / 2 = a ∧ 0 ≤ r / 2 ∧ r / 2 < b := by
  have e : q * (b * 2) = 2 * (q * b) := by grind
  rw [e] at h
  generalize q * b = x at *
  omega
theorem divPost_div {news : Led} {ad : Addr} {t1 t2 : Tok} (hp : Pre2 a b n) (hl : ∀ p ∈ news, p.1 < ad) : DivPost a b news (.ref ad) ((ad, pairObj (a.fdiv b) (a.fmod b) t1 t2) :: news) := by
  have hb := hp.bpos
  have f := fdiv_fmod_facts a b
  refine ⟨ad, _, _, t1, t2, rfl, rfl, hl, ?_, (f.2.2.1 hb).1, (f.2.2.1 hb).2⟩
  exact f.1
end
end Mine
namespace Mine
theorem Pre2.bitsQ {a b n q1 r1 : Int} (hp : Pre2 a b n) (he : n % 2 = 0)
    (e1 : q1 * b + r1 = a / 2 ^ n.toNat * 2 ^ (n / 2).toNat + a / 2 ^ (n / 2).toNat % 2 ^ (n / 2).toNat) (hr0 : 0 ≤ r1) (hr1 : r1 < b) : Builtin.Int.intBits q1 ≤ 17000 := by
  have hP := pow_pos' (n / 2).toNat
  have e2 : a / 2 ^ n.toNat * 2 ^ (n / 2).toNat + a / 2 ^ (n / 2).toNat % 2 ^ (n / 2).toNat = a / 2 ^ (n / 2).toNat := by
    rw [pow_half hp.n0 he, ← Int.ediv_ediv_of_nonneg (Int.le_of_lt hP), Int.mul_comm]
    exact Int.mul_ediv_add_emod _ _
  rw [e2, ← fdiv_pow] at e1
  have h0 : 0 ≤ a.fdiv (2 ^ (n / 2).toNat) := by rw [fdiv_pow]; exact Int.ediv_nonneg hp.a0 (Int.le_of_lt hP)
  exact (divBits hp.bpos h0 (intBits_fdiv_le hp.bits.1) e1 hr0 hr1).1
end Mine
namespace Mine
theorem led_sub {g h : Heap} {L : Addr} {x : Addr × Obj} {l news : Led} (N : News g L h (x :: l)) (hs : ∀ p ∈ news, p ∈ l) : News g L h (x :: news) := fun p hp => by
  rcases List.mem_cons.mp hp with rfl | hp
  · exact N _ (.head _)
  · exact N p (.tail _ (hs p hp))
end Mine

end
section
namespace Mine
def BodyOkC (prog : Program) (w : World) (K : Frag) (qual : Str) (scope : Scope) (f : Addr) (cdv : Value) (body : List Stmt) (binds : List (Str × Value)) (dep uni : Nat) (news : Led) (Post : Value → Led → Prop) : Prop :=
  ∀ (p : Program) (loose : List Str) (mean : ExcName → Option Value) (mg mb : Str → Option Value) (dp un : Nat) (gd : Option (List Code)) (outer : List Env) (A₀ : Around) (base g : Heap) (L : Addr) (s : Shared) (cells : Led),
    Below A₀ base outer g → Fr g L s.heap (bindL (envOfC qual scope L f cdv).kindOf binds fun _ => none) → K.In g → News g L s.heap (cells ++ news) →
    CellsAre (bindC (envOfC qual scope L f cdv).kindOf binds fun _ => none) (cellsFrom (L + 1) scope.names []) cells → (∀ p ∈ news, p.1 < L) → Top p loose mean mg mb g → dp + dep < recursionLimit → un + uni < cLine →
    wpAny (model prog w) (ktrTop dp un gd qual scope L f cdv (cellsFrom (L + 1) scope.names []) outer) (execs body (envX qual scope L f cdv (cellsFrom (L + 1) scope.names []))) (Ends g L s Post) (fun _ _ => False) s
theorem callOk_of_bodyC {prog : Program} {w : World} {K : Frag} {f : Addr} {vs : List Value} {dep uni : Nat} {news : Led} {Post : Value → Led → Prop}
    {name qual : Str} {params : Arguments} {body : List Stmt} {scope : Scope} {dV kV doc pm cdv ct oc : Value} {an od : Option Addr} {osl : Array (Option Value)} (binds : List (Str × Value))
    (ho : K.lookup f = some ⟨oc, od, .func (fnOf name qual params body scope dV kV doc pm an cdv ct), osl⟩) (hcd : codeIn K cdv qual = true)
    (hbind : ∀ s, BindsTo s (fnOf name qual params body scope dV kV doc pm an cdv ct) ⟨vs, []⟩ binds)
    (hkind : (binds.all fun y => scope.names.lookup y.1 == some .local || scope.names.lookup y.1 == some .cell) = true) (hnd : ((cellsFrom 0 scope.names []).map (·.1)).Nodup)
    (h : BodyOkC prog w K qual scope f cdv body binds dep uni news Post)
    (hco : scope.isCoroutine = false) (hgen : scope.isGenerator = false) (hk : scope.kind = .function) : CallOk prog w K f vs (dep + 1) (uni + 3) news Post := by
  intro p loose mean mg mb dp un gd cn cs a ccd cl outer A₀ base h₀ L m s Q E B F X N T hkc hd hu hret
  refine wpAny_call ?_
  refine code_defC (binds := binds) (env := envX cn cs L a ccd cl) B F X N T rfl rfl hkc ho hcd (by show dp < recursionLimit; omega) (hbind s) hkind hnd (fun g L' h₁ tk cells FG F' N' Y B' X' T' lt => ?_) hco hgen hk
  refine wpAny_mono (h p loose mean mg mb (dp + 1) (un + 3) gd (envX cn cs L a ccd cl :: outer) _ base g L' { s with heap := h₁, toks := tk } cells B' F' X' N' Y lt T' (by omega) (by omega)) (fun fl s' hl => ?_) (fun _ _ e => e.elim)
  obtain ⟨m', news', h', tk', rfl, F2, N2, hp⟩ := hl
  exact leaveK_ F2 N2 fun F3 N3 => hret _ _ _ _ F3 N3 hp
/-- a def made in a body: its function object and its code object stand in the ledger -/
theorem callOk_of_nest {prog : Program} {w : World} {K : Frag} {f c : Addr} {oc : Obj} {cvs : Array Value} {tq : Tok} {vs : List Value} {dep uni : Nat} {news : Led} {Post : Value → Led → Prop}
    {name qual : Str} {params : Arguments} {body : List Stmt} {scope : Scope} {doc pm ctv : Value} {cl : List (Str × Addr)} (binds : List (Str × Value))
    (ho : (f, fnMade name qual params body scope cl doc pm c ctv) ∈ news) (hoc : (c, oc) ∈ news) (hcd : oc.data = .fields cvs) (hcv : cvs[1]? = some (.str qual tq))
    (hbind : ∀ s, BindsTo s (fnX name qual params body scope cl .none .none doc pm none (.ref c) ctv) ⟨vs, []⟩ binds) (hloc : ∀ y ∈ binds, scope.names.lookup y.1 = some .local)
    (h : BodyOk prog w K qual scope f (.ref c) cl body binds dep uni news Post)
    (hco : scope.isCoroutine = false) (hgen : scope.isGenerator = false) (hk : scope.kind = .function)
    (hcell : ∀ x ∈ scope.names, x.2 ≠ .cell) : CallOk prog w K f vs (dep + 1) (uni + 3) news Post := by
  intro p loose mean mg mb dp un gd cn cs a ccd cl' outer A₀ base h₀ L m s Q E B F X N T hkc hd hu hret
  refine wpAny_call ?_
  refine callX_plain (cl := cl) (binds := binds) (env := envX cn cs L a ccd cl') B F N T.nolimit rfl rfl hkc (N _ ho).1 rfl (codeRec_news N hoc hcd hcv) (by show dp < recursionLimit; omega) (hbind s) hloc (fun g L' h₁ FG F' N' B' st lt => ?_) hcell hco hgen hk
  refine wpAny_mono (h p loose mean mg mb (dp + 1) (un + 3) gd (envX cn cs L a ccd cl' :: outer) _ base g L' { s with heap := h₁, toks := s.toks + binds.length } B' F' (X.keeps st) N' lt (T.keeps st) (by omega) (by omega)) (fun fl s' hl => ?_) (fun _ _ e => e.elim)
  obtain ⟨m', news', h', tk', rfl, F2, N2, hp⟩ := hl
  exact leaveK_ F2 N2 fun F3 N3 => hret _ _ _ _ F3 N3 hp
/-- the table of the codes that a def makes in its body: at its first run and later -/
inductive Tab (P : Addr) (pos : Pos) (qual : Str) : Led → Prop where
  | cold : Tab P pos qual [(P, tabObj #[])]
  | warm {c : Addr} {oc : Obj} {vs : Array Value} {t : Tok} : oc.data = .fields vs → vs[1]? = some (.str qual t) → c ≠ P → Tab P pos qual [(P, tabObj #[rawInt pos.line, rawInt pos.col, .ref c]), (c, oc)]
end Mine
namespace Mine
theorem cnt_bounds {a n : Int} (hn : 0 < n) (hc : (Builtin.Int.intBits a : Int) ≤ 1000 * n) : 0 ≤ ((Builtin.Int.intBits a : Int) + n - 1).fdiv n ∧ ((Builtin.Int.intBits a : Int) + n - 1).fdiv n ≤ 1000 := by
  rw [Int.fdiv_eq_ediv_of_nonneg _ (Int.le_of_lt hn)]
  refine ⟨Int.ediv_nonneg (by omega) (by omega), ?_⟩
  have : (Builtin.Int.intBits a : Int) + n - 1 < 1001 * n := by omega
  have := Int.ediv_lt_of_lt_mul hn this
  omega
end Mine
namespace Mine
theorem allNe {l : Led} {L x : Nat} (h : ∀ p ∈ l, p.1 < L) (hx : L ≤ x) : ∀ p ∈ l, p.1 ≠ x := fun p hp => Nat.ne_of_lt (Nat.lt_of_lt_of_le (h p hp) hx)
end Mine
namespace Mine
def nested (K : Frag) (f : Addr) (i : Nat) : Option (Str × Arguments × List Stmt × Scope) := match K.lookup f with
  | some ⟨_, _, .func fd, _⟩ => (match fd.body with
    | .stmts b => (match b[i]? with
      | some (.FunctionDef name args body _ _ _ scope _ _ _) => some (name, args, body, scope)
      | _ => none)
    | _ => none)
  | _ => none
/-- the digits of x to the base 2 ^ n, the lowest first, so many -/
def digs (n : Nat) (x : Int) : Nat → List Int
  | 0 => []
  | k + 1 => x % 2 ^ n :: digs n (x / 2 ^ n) k
theorem digs_len (n : Nat) : ∀ (k : Nat) (x : Int), (digs n x k).length = k
  | 0, _ => rfl
  | k + 1, x => by rw [digs, List.length_cons, digs_len]
theorem ediv_pow_pow (x : Int) (a b : Nat) : x / 2 ^ a / 2 ^ b = x / 2 ^ (a + b) := by
  rw [Int.ediv_ediv_of_nonneg (Int.le_of_lt (pow_pos' a)), ← Int.pow_add]
theorem digs_app (n : Nat) (j : Nat) : ∀ (i : Nat) (x : Int), digs n x (i + j) = digs n x i ++ digs n (x / 2 ^ (n * i)) j
  | 0, x => by simp [digs]
  | i + 1, x => by
    rw [show i + 1 + j = (i + j) + 1 by omega, digs, digs, digs_app n j i, List.cons_append, ediv_pow_pow, show n + n * i = n * (i + 1) by rw [Nat.mul_succ]; omega]
theorem emod_pow_pow (x : Int) (a b : Nat) : x % 2 ^ (a + b) % 2 ^ a = x % 2 ^ a := by
  rw [Int.pow_add, Int.emod_emod_of_dvd _ (Int.dvd_mul_right _ _)]
theorem emod_ediv_pow (x : Int) (a b : Nat) : x % 2 ^ (a + b) / 2 ^ a = x / 2 ^ a % 2 ^ b := by
  have hp := pow_pos' a
  have hq := pow_pos' b
  rw [Int.pow_add]
  have e1 := Int.mul_ediv_add_emod x (2 ^ a * 2 ^ b)
  have e2 := Int.mul_ediv_add_emod (x / 2 ^ a) (2 ^ b)
  have e3 := Int.mul_ediv_add_emod x (2 ^ a)
  have e4 : x / 2 ^ a / 2 ^ b = x / (2 ^ a * 2 ^ b) := Int.ediv_ediv_of_nonneg (Int.le_of_lt hp)
  rw [e4] at e2
  have m1 := Int.emod_nonneg x (Int.ne_of_gt hp)
  have m2 := Int.emod_lt_of_pos x hp
  generalize (2 : Int) ^ a = P at *
  generalize (2 : Int) ^ b = Q at *
  have e5 : x % (P * Q) = x % P + P * (x / P % Q) := by
    have : P * (Q * (x / (P * Q)) + x / P % Q) + x % P = x := by rw [e2]; exact e3
    have h6 : P * (Q * (x / (P * Q)) + x / P % Q) = P * Q * (x / (P * Q)) + P * (x / P % Q) := by grind
    omega
  rw [e5, Int.add_mul_ediv_left _ _ (Int.ne_of_gt hp), Int.ediv_eq_zero_of_lt m1 m2, Int.zero_add]
theorem digs_mod (n : Nat) : ∀ (i : Nat) (x : Int), digs n (x % 2 ^ (n * i)) i = digs n x i
  | 0, _ => rfl
  | i + 1, x => by
    rw [digs, digs, show n * (i + 1) = n + n * i by rw [Nat.mul_succ]; omega, emod_pow_pow, emod_ediv_pow, digs_mod n i]
theorem digs_one {n : Nat} {x : Int} (h0 : 0 ≤ x) (h : x < 2 ^ n) : digs n x 1 = [x] := by
  rw [digs, digs, Int.emod_eq_of_lt h0 h]
/-- places lo up to hi of ns hold the digits of x -/
def laid (n : Nat) (x : Int) (ns : List Int) (lo hi : Int) : List Int := ns.take lo.toNat ++ digs n x (hi - lo).toNat ++ ns.drop hi.toNat
theorem laid_len {n : Nat} {x : Int} {ns : List Int} {lo hi : Int} (h0 : 0 ≤ lo) (h1 : lo < hi) (h2 : hi ≤ ns.length) : (laid n x ns lo hi).length = ns.length := by
  simp only [laid, List.length_append, List.length_take, List.length_drop, digs_len]
  omega
theorem laid_one {n : Nat} {x : Int} {ns : List Int} {lo hi : Int} (h0 : 0 ≤ lo) (h1 : lo + 1 = hi) (h2 : hi ≤ ns.length) (hx : 0 ≤ x) (hx1 : x < 2 ^ n) : ns.set lo.toNat x = laid n x ns lo hi := by
  unfold laid
  rw [show (hi - lo).toNat = 1 by omega, digs_one hx hx1, show hi.toNat = lo.toNat + 1 by omega, List.set_eq_take_append_cons_drop, if_pos (by omega)]
  simp
theorem laid_two {n : Nat} {x : Int} {ns : List Int} {lo mid hi : Int} (h0 : 0 ≤ lo) (h1 : lo < mid) (h2 : mid < hi) (h3 : hi ≤ ns.length) {sh : Nat} (hs : sh = n * (mid - lo).toNat) :
    laid n (x / 2 ^ sh) (laid n (x % 2 ^ sh) ns lo mid) mid hi = laid n x ns lo hi := by
  subst hs
  unfold laid
  rw [digs_mod, show (hi - lo).toNat = (mid - lo).toNat + (hi - mid).toNat by omega, digs_app]
  have l1 : (ns.take lo.toNat ++ digs n x (mid - lo).toNat).length = mid.toNat := by
    simp only [List.length_append, List.length_take, digs_len]; omega
  rw [List.take_append_of_le_length (by omega), List.take_of_length_le (by omega)]
  have l2 : (ns.take lo.toNat ++ digs n x (mid - lo).toNat ++ ns.drop mid.toNat).drop hi.toNat = ns.drop hi.toNat := by
    rw [List.drop_append, List.drop_eq_nil_of_le (by omega), List.nil_append, List.drop_drop]
    congr 1
    omega
  rw [l2]
  simp [List.append_assoc]
theorem bits_ediv_pow {x : Int} {k m : Nat} (h : Builtin.Int.intBits x ≤ m) : Builtin.Int.intBits (x / 2 ^ k) ≤ m := by
  rw [← fdiv_pow]; exact intBits_fdiv_le h
section
variable {prog : Program} {w : World} {A : Around} {E : Value → Shared → Prop} {s : Shared} {x : Int} {t u : Tok} {Q : Value → Shared → Prop}
theorem xor_rest {k : Nat} (hx : 0 ≤ x) (h : Q (.int (x % 2 ^ k) s.toks) { s with toks := s.toks + 1 }) : wpAny (model prog w) A (binaryOp .BitXor (.int x t) (.int (x / 2 ^ k * 2 ^ k) u)) Q E s :=
  xor_int (by rw [← fdiv_pow, xor_low hx]; exact h)
end
/-- what inner's arguments must hold -/
structure In2 (n x lo hi : Int) (len : Nat) (k : Nat) : Prop where
  lo0 : 0 ≤ lo
  lohi : lo < hi
  hilen : hi ≤ len
  size : hi - lo ≤ 2 ^ k
  x0 : 0 ≤ x
  x1 : x < 2 ^ (n.toNat * (hi - lo).toNat)
theorem In2.halves {n x lo hi : Int} {len k : Nat} (h : In2 n x lo hi len (k + 1)) (hn : 0 < n) (hne : lo + 1 ≠ hi) (hm : n * (len : Int) ≤ 1000000) :
    0 ≤ ((lo + hi) / 2 - lo) * n ∧ ((lo + hi) / 2 - lo) * n ≤ 1000000 ∧ (((lo + hi) / 2 - lo) * n).toNat = n.toNat * ((lo + hi) / 2 - lo).toNat ∧
    lo < (lo + hi) / 2 ∧ (lo + hi) / 2 < hi ∧
    In2 n (x % 2 ^ (((lo + hi) / 2 - lo) * n).toNat) lo ((lo + hi) / 2) len k ∧ In2 n (x / 2 ^ (((lo + hi) / 2 - lo) * n).toNat) ((lo + hi) / 2) hi len k := by
  obtain ⟨h0, h1, h2, h3, h4, h5⟩ := h
  have e2 : (2 : Int) ^ (k + 1) = 2 * 2 ^ k := by rw [Int.pow_succ, Int.mul_comm]
  rw [e2] at h3
  have a1 : lo < (lo + hi) / 2 := by omega
  have a2 : (lo + hi) / 2 < hi := by omega
  have b1 : 0 ≤ ((lo + hi) / 2 - lo) * n := Int.mul_nonneg (by omega) (by omega)
  have b2 : ((lo + hi) / 2 - lo) * n ≤ (len : Int) * n := Int.mul_le_mul_of_nonneg_right (by omega) (by omega)
  have b3 : (len : Int) * n = n * len := Int.mul_comm _ _
  have c1 : (((lo + hi) / 2 - lo) * n).toNat = n.toNat * ((lo + hi) / 2 - lo).toNat := by
    rw [Int.toNat_mul (by omega) (by omega), Nat.mul_comm]
  refine ⟨b1, by omega, c1, a1, a2, ⟨h0, a1, by omega, by omega, Int.emod_nonneg _ (Int.ne_of_gt (pow_pos' _)), ?_⟩, ⟨by omega, a2, h2, by omega, Int.ediv_nonneg h4 (Int.le_of_lt (pow_pos' _)), ?_⟩⟩
  · rw [c1]; exact Int.emod_lt_of_pos _ (pow_pos' _)
  · refine Int.ediv_lt_of_lt_mul (pow_pos' _) ?_
    rw [c1, ← Int.pow_add, ← Nat.mul_add, show (hi - (lo + hi) / 2).toNat + ((lo + hi) / 2 - lo).toNat = (hi - lo).toNat by omega]
    exact h5
end Mine
namespace Mine
theorem bits_emod_le {x : Int} {k m : Nat} (h0 : 0 ≤ x) (h : Builtin.Int.intBits x ≤ m) : Builtin.Int.intBits (x % 2 ^ k) ≤ m := by
  have hp := pow_pos' k
  have h1 := Int.emod_nonneg x (Int.ne_of_gt hp)
  have h2 := Int.mul_ediv_add_emod x (2 ^ k)
  have h3 : 0 ≤ 2 ^ k * (x / 2 ^ k) := Int.mul_nonneg (Int.le_of_lt hp) (Int.ediv_nonneg h0 (Int.le_of_lt hp))
  exact intBits_le_of_natAbs (by omega) h
end Mine
namespace Mine
theorem led_pull1 {g h : Heap} {L : Addr} {a x : Addr × Obj} {l : Led} (N : News g L h (a :: x :: l)) : News g L h (x :: a :: l) := fun p hp => N p (by
  simp only [List.mem_cons] at hp ⊢; rcases hp with h | h | h <;> simp only [h, true_or, or_true])
theorem led_pull2 {g h : Heap} {L : Addr} {a b x : Addr × Obj} {l : Led} (N : News g L h (a :: b :: x :: l)) : News g L h (x :: a :: b :: l) := fun p hp => N p (by
  simp only [List.mem_cons] at hp ⊢; rcases hp with h | h | h | h <;> simp only [h, true_or, or_true])
theorem led_of {g h : Heap} {L : Addr} {l k : Led} (N : News g L h l) (hs : ∀ p ∈ k, p ∈ l) : News g L h k := fun p hp => N p (hs p hp)
/-- what _int2digits tells -/
def digitsOf (n a : Int) : List Int := digs n.toNat a (((Builtin.Int.intBits a : Int) + n - 1) / n).toNat
/-- a table's places behind a call: old ones, or above all that stood -/
def Fresher (tb tb' news : Led) : Prop := ∀ p ∈ tb', (∃ q ∈ tb, q.1 = p.1) ∨ ∀ q ∈ tb ++ news, q.1 < p.1
theorem Fresher.refl {tb news : Led} : Fresher tb tb news := fun p hp => .inl ⟨p, hp, rfl⟩
theorem Fresher.cold {P c : Addr} {o o' oc : Obj} {L : Nat} {news : Led} (h1 : @LT.lt Nat _ P c) (h2 : ∀ p ∈ news, p.1 < L) (h3 : L ≤ c) : Fresher [(P, o)] [(P, o'), (c, oc)] news := fun p hp => by
  rcases List.mem_cons.mp hp with rfl | hp
  · exact .inl ⟨_, .head _, rfl⟩
  · rw [List.mem_singleton.mp hp]
    refine .inr fun q hq => ?_
    rcases List.mem_cons.mp hq with rfl | hq
    · exact h1
    · exact Nat.lt_of_lt_of_le (h2 q hq) h3
theorem Fresher.ne {tb tb' news : Led} {X : Addr} (h : Fresher tb tb' news) (h1 : ∀ q ∈ tb, q.1 ≠ X) (h2 : ∃ o, (X, o) ∈ news) : ∀ p ∈ tb', p.1 ≠ X := fun p hp e => by
  rcases h p hp with ⟨q, hq, e2⟩ | h3
  · exact h1 q hq (e2.trans e)
  · obtain ⟨o, ho⟩ := h2
    have h4 : X < p.1 := h3 (X, o) (List.mem_append_right _ ho)
    rw [e] at h4
    exact Nat.lt_irrefl _ h4
def DigPost (P : Addr) (pos : Pos) (qual : Str) (n a : Int) (tb₀ news : Led) (r : Value) (news' : Led) : Prop :=
  ∃ ad vs tb, r = .ref ad ∧ Tab P pos qual tb ∧ Fresher tb₀ tb news ∧ news' = (ad, listOf (List.toArray vs) 0) :: (tb ++ news) ∧ (∀ p ∈ tb ++ news, p.1 ≠ ad) ∧ (∀ p ∈ tb₀ ++ news, p.1 < ad) ∧ IntsAre vs (digitsOf n a)
theorem laid_all {n : Nat} {x : Int} {k : Nat} {ns : List Int} (h : ns.length = k) : laid n x ns 0 k = digs n x k := by
  unfold laid
  rw [List.drop_eq_nil_of_le (by omega)]
  simp
theorem bits_lt {a : Int} (ha : 0 ≤ a) : a < 2 ^ (Builtin.Int.intBits a) := by
  have h := intBits_le_iff.mp (Nat.le_refl (Builtin.Int.intBits a))
  have h2 : ((a.natAbs : Nat) : Int) < ((2 ^ Builtin.Int.intBits a : Nat) : Int) := Int.ofNat_lt.mpr h
  rw [kbt_cast] at h2
  omega
theorem pow_le {a b : Nat} (h : a ≤ b) : (2 : Int) ^ a ≤ 2 ^ b := by
  rw [← kbt_cast, ← kbt_cast]
  exact Int.ofNat_le.mpr (Nat.pow_le_pow_right (by decide) h)
theorem cnt_facts {a n : Int} (ha : 0 ≤ a) (hn : 0 < n) (hn2 : n ≤ 10000) (hb : Builtin.Int.intBits a ≤ 100000) (ha0 : a ≠ 0) {c : Nat} (hc : (c : Int) = ((Builtin.Int.intBits a : Int) + n - 1) / n) (hc1 : (c : Int) ≤ 1000) :
    n * (c : Int) ≤ 1000000 ∧ In2 n a 0 c c 10 := by
  have hbits : 0 < Builtin.Int.intBits a := by
    rcases Nat.eq_zero_or_pos (Builtin.Int.intBits a) with h | h
    · have := bits_lt ha; rw [h] at this; simp at this; omega
    · exact h
  have e1 := Int.mul_ediv_add_emod ((Builtin.Int.intBits a : Int) + n - 1) n
  have e2 := Int.emod_nonneg ((Builtin.Int.intBits a : Int) + n - 1) (Int.ne_of_gt hn)
  have e3 := Int.emod_lt_of_pos ((Builtin.Int.intBits a : Int) + n - 1) hn
  rw [← hc] at e1
  have h1 : (Builtin.Int.intBits a : Int) ≤ n * c := by omega
  have hc0 : 0 < (c : Int) := by
    rcases Int.lt_or_le 0 (c : Int) with h | h
    · exact h
    · have : n * (c : Int) ≤ n * 0 := Int.mul_le_mul_of_nonneg_left h (by omega)
      omega
  refine ⟨by omega, Int.le_refl _, hc0, Int.le_refl _, ?_, ha, ?_⟩
  · show (c : Int) - 0 ≤ 1024; omega
  · refine Int.lt_of_lt_of_le (bits_lt ha) (pow_le ?_)
    rw [show ((c : Int) - 0).toNat = c by omega]
    have : ((n.toNat * c : Nat) : Int) = n * c := by rw [Int.natCast_mul, Int.toNat_of_nonneg (by omega)]
    omega
end Mine
namespace Mine
section
variable {d f c l x y z t : Addr × Obj} {news : Led}
theorem sub_cold : ∀ p ∈ d :: ([t, c] ++ news), p ∈ d :: f :: c :: l :: x :: y :: z :: t :: news := by
  intro p hp
  simp only [List.cons_append, List.nil_append, List.mem_cons] at hp ⊢
  rcases hp with h | h | h | h <;> simp only [h, true_or, or_true]
theorem sub_warm : ∀ p ∈ d :: ([t, c] ++ news), p ∈ d :: f :: l :: x :: y :: z :: t :: c :: news := by
  intro p hp
  simp only [List.cons_append, List.nil_append, List.mem_cons] at hp ⊢
  rcases hp with h | h | h | h <;> simp only [h, true_or, or_true]
theorem sub_cold0 : ∀ p ∈ d :: ([t, c] ++ news), p ∈ f :: c :: d :: l :: x :: y :: z :: t :: news := by
  intro p hp
  simp only [List.cons_append, List.nil_append, List.mem_cons] at hp ⊢
  rcases hp with h | h | h | h <;> simp only [h, true_or, or_true]
theorem sub_warm0 : ∀ p ∈ d :: ([t, c] ++ news), p ∈ f :: d :: l :: x :: y :: z :: t :: c :: news := by
  intro p hp
  simp only [List.cons_append, List.nil_append, List.mem_cons] at hp ⊢
  rcases hp with h | h | h | h <;> simp only [h, true_or, or_true]
end
theorem cnt_zero {n : Int} (hn : 0 < n) : (((Builtin.Int.intBits 0 : Nat) : Int) + n - 1) / n = 0 := by
  rw [show Builtin.Int.intBits 0 = 0 from rfl]
  exact Int.ediv_eq_zero_of_lt (by omega) (by omega)
theorem digits_zero {n : Int} (hn : 0 < n) : digitsOf n 0 = [] := by
  unfold digitsOf; rw [cnt_zero hn]; rfl
end Mine
namespace Mine
theorem allLt' {l : Led} {L x : Nat} (h : ∀ p ∈ l, p.1 < L) (hx : L ≤ x) : ∀ p ∈ l, p.1 < x := fun p hp => Nat.lt_of_lt_of_le (h p hp) hx
end Mine

end
section
namespace Mine
/-- the number that digits tell, the lowest first -/
def val (n : Nat) : List Int → Int
  | [] => 0
  | d :: r => d + 2 ^ n * val n r
theorem val_app (n : Nat) : ∀ l k : List Int, val n (l ++ k) = val n l + 2 ^ (n * l.length) * val n k
  | [], k => by simp [val]
  | d :: l, k => by
    rw [List.cons_append, val, val, val_app n l k, List.length_cons, show n * (l.length + 1) = n + n * l.length by rw [Nat.mul_succ]; omega, Int.pow_add]
    grind
def Small (n : Nat) (l : List Int) : Prop := ∀ d ∈ l, 0 ≤ d ∧ d < 2 ^ n
theorem val_bounds (n : Nat) : ∀ l : List Int, Small n l → 0 ≤ val n l ∧ val n l < 2 ^ (n * l.length)
  | [], _ => by simp [val]
  | d :: l, h => by
    have h1 := h d (.head _)
    have h2 := val_bounds n l fun x hx => h x (.tail _ hx)
    have hp := pow_pos' n
    have hq := pow_pos' (n * l.length)
    rw [val, List.length_cons, show n * (l.length + 1) = n + n * l.length by rw [Nat.mul_succ]; omega, Int.pow_add]
    have h3 : 0 ≤ 2 ^ n * val n l := Int.mul_nonneg (Int.le_of_lt hp) h2.1
    have h4 : 2 ^ n * (val n l + 1) ≤ 2 ^ n * 2 ^ (n * l.length) := Int.mul_le_mul_of_nonneg_left (by omega) (Int.le_of_lt hp)
    rw [Int.mul_add] at h4
    omega
def sl (ns : List Int) (lo hi : Int) : List Int := (ns.drop lo.toNat).take (hi - lo).toNat
theorem sl_len {ns : List Int} {lo hi : Int} (h0 : 0 ≤ lo) (h1 : lo < hi) (h2 : hi ≤ ns.length) : (sl ns lo hi).length = (hi - lo).toNat := by
  simp only [sl, List.length_take, List.length_drop]; omega
theorem sl_one {ns : List Int} {lo hi : Int} (h0 : 0 ≤ lo) (h1 : lo + 1 = hi) (h2 : hi ≤ ns.length) : sl ns lo hi = [ns.getD lo.toNat 0] := by
  unfold sl
  have h3 : lo.toNat < ns.length := by omega
  rw [show (hi - lo).toNat = 1 by omega, List.drop_eq_getElem_cons h3, List.take_succ_cons, List.take_zero]
  simp [List.getD, h3]
theorem sl_two {ns : List Int} {lo mid hi : Int} (h0 : 0 ≤ lo) (h1 : lo < mid) (h2 : mid < hi) : sl ns lo hi = sl ns lo mid ++ sl ns mid hi := by
  unfold sl
  rw [show (hi - lo).toNat = (mid - lo).toNat + (hi - mid).toNat by omega, List.take_add, List.drop_drop]
  congr 3
  omega
theorem sl_small {n : Nat} {ns : List Int} {lo hi : Int} (h : Small n ns) : Small n (sl ns lo hi) := fun d hd => h d (List.mem_of_mem_drop (List.mem_of_mem_take hd))
theorem sl_all {ns : List Int} : sl ns 0 ns.length = ns := by
  unfold sl; simp
theorem val_one {n : Nat} {d : Int} : val n [d] = d := by simp [val]
theorem val_two {n : Nat} {ns : List Int} {lo mid hi : Int} (h0 : 0 ≤ lo) (h1 : lo < mid) (h2 : mid < hi) (h3 : hi ≤ ns.length) {sh : Nat} (hs : sh = n * (mid - lo).toNat) :
    val n (sl ns mid hi) * 2 ^ sh + val n (sl ns lo mid) = val n (sl ns lo hi) := by
  rw [sl_two h0 h1 h2, val_app, sl_len h0 h1 (by omega), hs, Int.mul_comm, Int.add_comm]
structure In1 (n lo hi : Int) (len : Nat) (k : Nat) : Prop where
  lo0 : 0 ≤ lo
  lohi : lo < hi
  hilen : hi ≤ len
  size : hi - lo ≤ 2 ^ k
theorem In1.halves {n lo hi : Int} {len k : Nat} (h : In1 n lo hi len (k + 1)) (hn : 0 < n) (hne : lo + 1 ≠ hi) (hm : n * (len : Int) ≤ 1000000) :
    0 ≤ ((lo + hi) / 2 - lo) * n ∧ ((lo + hi) / 2 - lo) * n ≤ 1000000 ∧ (((lo + hi) / 2 - lo) * n).toNat = n.toNat * ((lo + hi) / 2 - lo).toNat ∧
    lo < (lo + hi) / 2 ∧ (lo + hi) / 2 < hi ∧ In1 n lo ((lo + hi) / 2) len k ∧ In1 n ((lo + hi) / 2) hi len k := by
  obtain ⟨h0, h1, h2, h3⟩ := h
  have e2 : (2 : Int) ^ (k + 1) = 2 * 2 ^ k := by rw [Int.pow_succ, Int.mul_comm]
  rw [e2] at h3
  have a1 : lo < (lo + hi) / 2 := by omega
  have a2 : (lo + hi) / 2 < hi := by omega
  have b1 : 0 ≤ ((lo + hi) / 2 - lo) * n := Int.mul_nonneg (by omega) (by omega)
  have b2 : ((lo + hi) / 2 - lo) * n ≤ (len : Int) * n := Int.mul_le_mul_of_nonneg_right (by omega) (by omega)
  have b3 : (len : Int) * n = n * len := Int.mul_comm _ _
  have c1 : (((lo + hi) / 2 - lo) * n).toNat = n.toNat * ((lo + hi) / 2 - lo).toNat := by
    rw [Int.toNat_mul (by omega) (by omega), Nat.mul_comm]
  exact ⟨b1, by omega, c1, a1, a2, ⟨h0, a1, by omega, by omega⟩, ⟨by omega, a2, h2, by omega⟩⟩
theorem val_bits {n : Int} {ns : List Int} {lo hi : Int} (hn : 0 < n) (hs : Small n.toNat ns) (h0 : 0 ≤ lo) (h1 : lo < hi) (h2 : hi ≤ ns.length) (hm : n * (ns.length : Int) ≤ 1000000) : Builtin.Int.intBits (val n.toNat (sl ns lo hi)) ≤ 1000000 := by
  have h := val_bounds n.toNat _ (sl_small (lo := lo) (hi := hi) hs)
  rw [sl_len h0 h1 h2] at h
  refine bits_of_lt' h.1 h.2 ?_
  have e : ((n.toNat * (hi - lo).toNat : Nat) : Int) = n * (hi - lo) := by rw [Int.natCast_mul, Int.toNat_of_nonneg (by omega), Int.toNat_of_nonneg (by omega)]
  have : n * (hi - lo) ≤ n * ns.length := Int.mul_le_mul_of_nonneg_left (by omega) (by omega)
  omega
end Mine
namespace Mine
section
variable {prog : Program} {w : World} {A : Around} {E : Value → Shared → Prop} {s : Shared} {h₀ : Heap} {L D : Addr} {news : Led} {vs : List Value} {ns : List Int} {e : Nat}
theorem len_N {Q : Value → Shared → Prop} (N : News h₀ L s.heap news) (hm : (D, listOf vs.toArray e) ∈ news) (hi : IntsAre vs ns) (hf : (ns.length : Int) ≤ 1000000) (h : Q (.int (ns.length : Nat) (s.toks + 1)) { s with toks := s.toks + 1 + 1 }) :
    wpAny (model prog w) A (call (.builtin "len") [.ref D]) Q E s :=
  KM.len_K N hm (by rw [List.size_toArray, hi.length]) (by omega) h
end
end Mine
namespace Mine
section
variable {prog : Program} {w : World} {A : Around} {E : Value → Shared → Prop} {s : Shared} {h₀ : Heap} {L D : Addr} {news : Led} {vs : List Value} {ns : List Int} {e : Nat}
theorem truthy_N {Q : Bool → Shared → Prop} (N : News h₀ L s.heap news) (hm : (D, listOf vs.toArray e) ∈ news) (hi : IntsAre vs ns) (hf : (ns.length : Int) ≤ 1000000) (h : Q (decide (0 < ns.length)) { s with toks := s.toks + 1 + 1 }) :
    wpAny (model prog w) A (truthy (.ref D)) Q E s := by
  refine wpAny_truthy_list (News.isList N hm) (by rw [List.size_toArray, hi.length]; omega) ?_
  have e1 : (!vs.toArray.isEmpty) = decide (0 < ns.length) := by
    rw [← hi.length]
    cases vs <;> simp
  rw [e1]
  exact h
end
end Mine
namespace Mine
section
variable {f c x y z t : Addr × Obj} {news : Led}
theorem sub_coldD : ∀ p ∈ ([t, c] ++ news), p ∈ f :: c :: x :: y :: z :: t :: news := by
  intro p hp
  simp only [List.cons_append, List.nil_append, List.mem_cons] at hp ⊢
  rcases hp with h | h | h <;> simp only [h, true_or, or_true]
theorem sub_warmD : ∀ p ∈ ([t, c] ++ news), p ∈ f :: x :: y :: z :: t :: c :: news := by
  intro p hp
  simp only [List.cons_append, List.nil_append, List.mem_cons] at hp ⊢
  rcases hp with h | h | h <;> simp only [h, true_or, or_true]
end
end Mine

end
section
namespace Mine
def TurnEnd {σ : Type} (h₀ : Heap) (L I : Addr) (it : Obj) (s : Shared) (Led : σ → Led) (ps : σ → List (Str × Value)) (stored : List Str) (m₀ : Str → Option Value) (P : Nat → σ → Prop) (i : Nat) (s₂ : Shared) : Prop :=
  ∃ c' h' tk m' news', s₂ = { s with heap := h', toks := tk } ∧ Fr h₀ L h' m' ∧ News h₀ L h' news' ∧ (∀ p ∈ Led c', p ∈ news') ∧ (I, it) ∈ news' ∧ (∀ p ∈ Led c', p.1 ≠ I) ∧ (∀ p ∈ ps c', m' p.1 = some p.2) ∧ (∀ z, (∀ p ∈ ps c', z ≠ p.1) → stored.contains z = false → m' z = m₀ z) ∧ P (i + 1) c'
def TurnPost {σ : Type} (h₀ : Heap) (L I : Addr) (it : Obj) (s : Shared) (Led : σ → Led) (ps : σ → List (Str × Value)) (stored : List Str) (m₀ : Str → Option Value) (P : Nat → σ → Prop) (i : Nat) (Q : Flow → Shared → Prop) (f : Flow) (s₂ : Shared) : Prop :=
  match f with
  | .ret v => Q (.ret v) s₂
  | .brk => Q .next s₂
  | _ => TurnEnd h₀ L I it s Led ps stored m₀ P i s₂
theorem turn_end {σ : Type} {h₀ : Heap} {L I : Addr} {it : Obj} {s : Shared} {Led : σ → Mine.Led} {ps : σ → List (Str × Value)} {stored : List Str} {m₀ : Str → Option Value} {P : Nat → σ → Prop} {i : Nat} (c' : σ)
    {h' : Heap} {tk : Nat} {m' : Str → Option Value} {news' : Mine.Led} (F : Fr h₀ L h' m') (N : News h₀ L h' news') (hs : ∀ p ∈ Led c', p ∈ news') (hI : (I, it) ∈ news') (hne : ∀ p ∈ Led c', p.1 ≠ I) (hps : ∀ p ∈ ps c', m' p.1 = some p.2)
    (hr : ∀ z, (∀ p ∈ ps c', z ≠ p.1) → stored.contains z = false → m' z = m₀ z) (hp : P (i + 1) c') : TurnEnd h₀ L I it s Led ps stored m₀ P i { s with heap := h', toks := tk } :=
  ⟨c', h', tk, m', news', rfl, F, N, hs, hI, hne, hps, hr, hp⟩
section
variable {prog : Program} {w : World} {A : Around} {E : Value → Shared → Prop} {s : Shared} {env : Env} {h₀ : Heap} {x : Str} {body : List Stmt} {Q : Flow → Shared → Prop}
theorem loop_walk {σ : Type} {I l : Addr} {lo : Obj} {n : Nat} {Pv : Nat → Value → Prop} {St : Nat → Heap → Prop} {m₀ : Str → Option Value} (W : Walks prog w A I [I, l] [I] n Pv St) (hst : St 0 s.heap)
    (Led : σ → Mine.Led) (ps : σ → List (Str × Value)) (stored : List Str) (P : Nat → σ → Prop) (c₀ : σ)
    (hx : stored.contains x = true)
    (hl : (∀ c, (l, lo) ∈ Led c) ∨ h₀.get? l = some lo) (hI₀ : h₀.get? I = none) (hIL : I ≠ env.locals)
    (F : Fr h₀ env.locals s.heap m₀) (N : News h₀ env.locals s.heap (Led c₀)) (hne : ∀ p ∈ Led c₀, p.1 ≠ I) (hk : ∀ p ∈ ps c₀, m₀ p.1 = some p.2) (hp : P 0 c₀) (hlive : ∀ i h, St i h → ∃ it, h.get? I = some it)
    (turn : ∀ (i : Nat) (v : Value) (c : σ) (u : Str → Option Value) (h : Heap) (tk : Nat) (it : Obj), i < n → Pv i v → P i c → (∀ p ∈ Led c, p.1 ≠ I) → Fr h₀ env.locals h (fun y => if y = x then some v else kstB (fun z => if stored.contains z then u z else m₀ z) (ps c) y) → News h₀ env.locals h ((I, it) :: Led c) →
      wpAny (model prog w) A (execs body env) (TurnPost h₀ env.locals I it { s with heap := h, toks := tk } Led ps stored m₀ P i Q) E { s with heap := h, toks := tk })
    (done : ∀ (c : σ) (u : Str → Option Value) (h : Heap) (tk : Nat), P n c → Fr h₀ env.locals h (kstB (fun z => if stored.contains z then u z else m₀ z) (ps c)) → News h₀ env.locals h (Led c) → Q .next { s with heap := h, toks := tk }) :
    LoopAtV prog w A h₀ env x body Q E (.ref I) s := by
  have hLl : env.locals ≠ l := by
    rcases hl with hl | hl
    · exact fun q => (N _ (hl c₀)).2.1 q.symm
    · intro q
      have h1 := Heap.lt_size hl
      rw [← q] at h1
      exact absurd (Nat.lt_of_lt_of_le h1 F.above) (Nat.lt_irrefl _)
  refine ⟨I, [I, l], [I], n, Pv, St, m₀, Led c₀, fun i m₁ news₁ => ∃ c, news₁ = Led c ∧ (∀ p ∈ ps c, m₁ p.1 = some p.2) ∧ (∀ z, (∀ p ∈ ps c, z ≠ p.1) → stored.contains z = false → m₁ z = m₀ z) ∧ P i c, rfl, W, ?_, ?_, ?_, hst, F, N, ⟨c₀, rfl, hk, fun _ _ _ => rfl, hp⟩, ?_, ?_⟩
  · intro hm
    rcases List.mem_cons.mp hm with e | hm
    · exact hIL e.symm
    · exact hLl (List.mem_singleton.mp hm)
  · intro b hb
    rw [List.mem_singleton.mp hb]; exact hI₀
  · intro p hp hb
    exact hne p hp (List.mem_singleton.mp hb)
  · rintro i v m₁ news₁ s₁ own ⟨hh, tkh, rfl⟩ hin hP ⟨c, rfl, hps, hrest, hPc⟩ hoff hown hget hall hst₁ F₁ N₁
    obtain ⟨it, hit⟩ := hlive _ _ hst₁
    have hmemI := hall I (List.mem_cons_self) hI₀ it hit
    have hneI : ∀ p ∈ Led c, p.1 ≠ I := fun p hp e => hoff p hp (by rw [e]; exact List.mem_singleton.mpr rfl)
    have Nt : News h₀ env.locals hh ((I, it) :: Led c) := fun p hp => by
      rcases List.mem_cons.mp hp with rfl | hp
      · exact N₁ _ (List.mem_append_left _ hmemI)
      · exact N₁ p (List.mem_append_right _ hp)
    have em : (fun y => if y = x then some v else m₁ y) = (fun y => if y = x then some v else kstB (fun z => if stored.contains z then m₁ z else m₀ z) (ps c) y) := by
      funext y
      by_cases h1 : y = x
      · simp only [h1, if_true]
      · simp only [if_neg h1]
        refine (kstB_eq hps fun hn => ?_).symm
        show (if stored.contains y = true then m₁ y else m₀ y) = m₁ y
        cases h3 : stored.contains y with
        | true => simp
        | false => simp only [Bool.false_eq_true, if_false]; exact (hrest y hn h3).symm
    rw [em] at F₁
    refine wpAny_mono (turn i v c m₁ hh tkh it hin hP hPc hneI F₁ Nt) (fun f s₃ h₃ => ?_) fun _ _ e => e
    have fin : TurnEnd h₀ env.locals I it { s with heap := hh, toks := tkh } Led ps stored m₀ P i s₃ → LoopStepU h₀ env.locals [I] own (fun m₁ news₁ => ∃ c, news₁ = Led c ∧ (∀ p ∈ ps c, m₁ p.1 = some p.2) ∧ (∀ z, (∀ p ∈ ps c, z ≠ p.1) → stored.contains z = false → m₁ z = m₀ z) ∧ P (i + 1) c) { s with heap := hh, toks := tkh } .next s₃ := by
      rintro ⟨c', h', tk', m', news', rfl, F', N', hs', hI', hne', hps', hr', hp'⟩
      refine ⟨rfl, h', tk', m', Led c', rfl, F', fun p hp => ?_, fun p hp hb => hne' p hp (List.mem_singleton.mp hb), c', rfl, hps', hr', hp'⟩
      rcases List.mem_append.mp hp with hp | hp
      · have h1 := hget p hp
        rcases List.mem_cons.mp (hown p hp) with e | e
        · obtain ⟨a, o⟩ := p
          simp only at e h1
          subst e
          rw [hit] at h1
          cases h1
          exact N' _ hI'
        · have e' := List.mem_singleton.mp e
          obtain ⟨a, o⟩ := p
          simp only at e' h1
          subst e'
          rcases hl with hl | hl
          · have h2 := (Nt _ (List.mem_cons_of_mem _ (hl c))).1
            simp only at h2
            rw [h2] at h1
            cases h1
            exact N' _ (hs' _ (hl c'))
          · have h3 := (N₁ _ (List.mem_append_left _ hp)).2.2
            simp only at h3
            rw [hl] at h3; cases h3
      · exact N' p (hs' p hp)
    cases f with
    | ret v => exact .ret h₃
    | brk => exact .brk h₃
    | next => exact .next (fin h₃)
    | cont => exact .cont (fin h₃)
  · rintro h' tk' m' news' F' N' hoff' ⟨c, rfl, hps, hrest, hPc⟩
    have em : m' = kstB (fun z => if stored.contains z then m' z else m₀ z) (ps c) := by
      funext y
      refine (kstB_eq hps fun hn => ?_).symm
      show (if stored.contains y = true then m' y else m₀ y) = m' y
      cases h3 : stored.contains y with
      | true => simp
      | false => simp only [Bool.false_eq_true, if_false]; exact (hrest y hn h3).symm
    rw [em] at F'
    exact done c m' h' tk' hPc F' N'
/-- a for over a list that the loop leaves as it is -/
theorem iter_list {σ : Type} {l : Addr} {lo : Obj} {vs : List Value} {m₀ : Str → Option Value} (Led : σ → Mine.Led) (ps : σ → List (Str × Value)) (stored : List Str) (P : Nat → σ → Prop) (c₀ : σ)
    (hh : A.handled = none) (hx : stored.contains x = true) (hl : (∀ c, (l, lo) ∈ Led c) ∨ h₀.get? l = some lo) (hlc : lo.cls = .type "list") (hld : ∃ e, lo.data = .seq vs.toArray e)
    (F : Fr h₀ env.locals s.heap m₀) (N : News h₀ env.locals s.heap (Led c₀)) (hk : ∀ p ∈ ps c₀, m₀ p.1 = some p.2) (hp : P 0 c₀)
    (turn : ∀ (i : Nat) (v : Value) (c : σ) (u : Str → Option Value) (h : Heap) (tk : Nat) (I : Addr) (it : Obj), i < vs.length → vs[i]? = some v → P i c → (∀ p ∈ Led c, p.1 ≠ I) → Fr h₀ env.locals h (fun y => if y = x then some v else kstB (fun z => if stored.contains z then u z else m₀ z) (ps c) y) → News h₀ env.locals h ((I, it) :: Led c) →
      wpAny (model prog w) A (execs body env) (TurnPost h₀ env.locals I it { s with heap := h, toks := tk } Led ps stored m₀ P i Q) E { s with heap := h, toks := tk })
    (done : ∀ (c : σ) (u : Str → Option Value) (h : Heap) (tk : Nat), P vs.length c → Fr h₀ env.locals h (kstB (fun z => if stored.contains z then u z else m₀ z) (ps c)) → News h₀ env.locals h (Led c) → Q .next { s with heap := h, toks := tk }) :
    wpAny (model prog w) A (pyIter (.ref l)) (fun it s₂ => LoopAtV prog w A h₀ env x body Q E it s₂) E s := by
  obtain ⟨e, hld⟩ := hld
  have hget : s.heap.get? l = some lo := by
    rcases hl with hl | hl
    · exact (N _ (hl c₀)).1
    · exact F.keep _ _ hl
  have hls : s.heap.IsList l vs.toArray := ⟨lo, hget, hlc, e, hld⟩
  have hne : l ≠ s.heap.objs.size := Nat.ne_of_lt (Heap.lt_size hget)
  refine wpAny_pyIter_list hls ?_
  have W := Walks.list (prog := prog) (w := w) hh s.heap.objs.size l hne vs.toArray
  have hlen : vs.toArray.size = vs.length := by simp
  rw [hlen] at W
  have hLs : env.locals < s.heap.objs.size := F.ns.lt
  refine loop_walk (lo := lo) W ⟨⟨_, Heap.get?_push_size _ rfl, rfl, rfl⟩, hls.at fun o e => Heap.get?_push_of_some _ e⟩ Led ps stored P c₀ hx hl (next_is_new F) (Nat.ne_of_gt hLs) (F.push _) (fun p hp => ⟨Heap.get?_push_of_some _ (N p hp).1, (N p hp).2⟩)
    (fun p hp => Nat.ne_of_lt (Heap.lt_size (N p hp).1)) hk hp (fun i h hs => ?_) (fun i v c u h tk it hi hv => turn i v c u h tk _ it hi (by simpa using hv)) done
  obtain ⟨o, ho, _⟩ := hs.1
  exact ⟨o, ho⟩
/-- a for over reversed(..) of such a list; the iterator object stands in the ledger -/
theorem iter_rev {σ : Type} {l I : Addr} {lo : Obj} {vs : List Value} {m₀ : Str → Option Value} (Led : σ → Mine.Led) (ps : σ → List (Str × Value)) (stored : List Str) (P : Nat → σ → Prop) (c₀ : σ)
    (hh : A.handled = none) (hx : stored.contains x = true) (hl : ∀ c, (l, lo) ∈ Led c) (hlc : lo.cls = .type "list") (hld : ∃ e, lo.data = .seq vs.toArray e)
    (F : Fr h₀ env.locals s.heap m₀) (N : News h₀ env.locals s.heap ((I, revObj l ((vs.length : Int) - 1)) :: Led c₀)) (hne : ∀ p ∈ Led c₀, p.1 ≠ I) (hk : ∀ p ∈ ps c₀, m₀ p.1 = some p.2) (hp : P 0 c₀)
    (turn : ∀ (i : Nat) (v : Value) (c : σ) (u : Str → Option Value) (h : Heap) (tk : Nat) (it : Obj), i < vs.length → vs.reverse[i]? = some v → P i c → (∀ p ∈ Led c, p.1 ≠ I) → Fr h₀ env.locals h (fun y => if y = x then some v else kstB (fun z => if stored.contains z then u z else m₀ z) (ps c) y) → News h₀ env.locals h ((I, it) :: Led c) →
      wpAny (model prog w) A (execs body env) (TurnPost h₀ env.locals I it { s with heap := h, toks := tk } Led ps stored m₀ P i Q) E { s with heap := h, toks := tk })
    (done : ∀ (c : σ) (u : Str → Option Value) (h : Heap) (tk : Nat), P vs.length c → Fr h₀ env.locals h (kstB (fun z => if stored.contains z then u z else m₀ z) (ps c)) → News h₀ env.locals h (Led c) → Q .next { s with heap := h, toks := tk }) :
    wpAny (model prog w) A (pyIter (.ref I)) (fun it s₂ => LoopAtV prog w A h₀ env x body Q E it s₂) E s := by
  obtain ⟨e, hld⟩ := hld
  have hIx := N _ (List.mem_cons_self ..)
  have hget : s.heap.get? l = some lo := (N _ (List.mem_cons_of_mem _ (hl c₀))).1
  have hls : s.heap.IsList l vs.toArray := ⟨lo, hget, hlc, e, hld⟩
  have hnl : l ≠ I := hne _ (hl c₀)
  have hit : s.heap.IsRevIter I l ((vs.length : Int) - 1) := ⟨_, hIx.1, rfl, rfl⟩
  refine wpAny_pyIter_revIter hit ?_
  have W := Walks.listRev (prog := prog) (w := w) hh I l hnl vs.toArray
  have hlen : vs.toArray.size = vs.length := by simp
  rw [hlen] at W
  have e1 : (vs.length : Int) - 1 - ((0 : Nat) : Int) = (vs.length : Int) - 1 := by omega
  have hit0 : s.heap.IsRevIter I l ((vs.length : Int) - 1 - ((0 : Nat) : Int)) := by rw [e1]; exact hit
  refine loop_walk (lo := lo) W ⟨Nat.zero_le _, hit0, hls⟩ Led ps stored P c₀ hx (.inl hl) hIx.2.2 hIx.2.1 F (fun p hp => N p (List.mem_cons_of_mem _ hp)) hne hk hp (fun i h hs => ?_) (fun i v c u h tk it hi hv => turn i v c u h tk it hi ?_) done
  · obtain ⟨o, ho, _⟩ := hs.2.1
    exact ⟨o, ho⟩
  · rw [List.getElem?_reverse hi]
    simpa using hv
end
end Mine
namespace Mine
theorem bits_pos {b : Int} (hb : 0 < b) : 0 < Builtin.Int.intBits b := by
  rcases Nat.eq_zero_or_pos (Builtin.Int.intBits b) with h | h
  · have := bits_lt (a := b) (by omega); rw [h] at this; simp at this; omega
  · exact h
end Mine
namespace Mine
structure DivInv (n : Nat) (b : Int) (ds : List Int) (i : Nat) (qs : List Int) (r : Int) : Prop where
  len : qs.length = i
  small : Small n qs
  r0 : 0 ≤ r
  r1 : r < b
  eq : val n qs.reverse * b + r = val n (ds.drop (ds.length - i))
theorem DivInv.start {n : Nat} {b : Int} {ds : List Int} (hb : 0 < b) : DivInv n b ds 0 [] 0 :=
  ⟨rfl, (fun _ h => nomatch h), Int.le_refl _, hb, by simp [val]⟩
theorem DivInv.step {n : Nat} {b : Int} {ds : List Int} {i : Nat} {qs : List Int} {r d q r' : Int} (h : DivInv n b ds i qs r) (hi : i < ds.length) (hd : ds.reverse[i]? = some d) (hd0 : 0 ≤ d) (hd1 : d < 2 ^ n)
    (e1 : q * b + r' = r * 2 ^ n + d) (e2 : 0 ≤ r') (e3 : r' < b) : DivInv n b ds (i + 1) (qs ++ [q]) r' := by
  have hP := pow_pos' n
  have hb : 0 < b := Int.lt_of_le_of_lt h.r0 h.r1
  have hrP : 0 ≤ r * 2 ^ n := Int.mul_nonneg h.r0 (Int.le_of_lt hP)
  have hq0 : 0 ≤ q := pos_factor hb (by rw [Int.add_mul]; omega)
  have hq1 : q < 2 ^ n := by
    have h1 : (r + 1) * 2 ^ n ≤ b * 2 ^ n := Int.mul_le_mul_of_nonneg_right (by have := h.r1; omega) (Int.le_of_lt hP)
    rw [Int.add_mul] at h1
    have h2 : q * b < 2 ^ n * b := by rw [Int.mul_comm (2 ^ n) b]; omega
    exact Int.lt_of_mul_lt_mul_right h2 (Int.le_of_lt hb)
  refine ⟨by rw [List.length_append, h.len]; rfl, fun x hx => ?_, e2, e3, ?_⟩
  · rcases List.mem_append.mp hx with hx | hx
    · exact h.small x hx
    · rw [List.mem_singleton.mp hx]; exact ⟨hq0, hq1⟩
  · rw [List.getElem?_reverse hi] at hd
    have hj : ds.length - 1 - i < ds.length := by omega
    rw [List.getElem?_eq_getElem hj] at hd
    have hdrop : ds.drop (ds.length - (i + 1)) = d :: ds.drop (ds.length - i) := by
      have e4 : ds.length - (i + 1) = ds.length - 1 - i := by omega
      rw [e4, List.drop_eq_getElem_cons hj, Option.some.inj hd]
      congr 2
      omega
    rw [hdrop, List.reverse_append, List.reverse_singleton, List.singleton_append, val, val, ← h.eq]
    have e5 : q * b = r * 2 ^ n + d - r' := by omega
    rw [Int.add_mul, e5]
    grind
theorem val_digs {n : Nat} : ∀ (k : Nat) (x : Int), 0 ≤ x → x < 2 ^ (n * k) → val n (digs n x k) = x
  | 0, x, h0, h1 => by simp at h1; rw [digs, val]; omega
  | k + 1, x, h0, h1 => by
    have hP := pow_pos' n
    rw [digs, val, val_digs k (x / 2 ^ n) (Int.ediv_nonneg h0 (Int.le_of_lt hP)) (Int.ediv_lt_of_lt_mul hP (by rw [← Int.pow_add, show n * k + n = n * (k + 1) by rw [Nat.mul_succ]]; exact h1)), Int.add_comm]
    exact Int.mul_ediv_add_emod x (2 ^ n)
theorem digs_small {n : Nat} : ∀ (k : Nat) (x : Int), Small n (digs n x k)
  | 0, _ => fun _ h => nomatch h
  | k + 1, x => fun d hd => by
    rw [digs] at hd
    rcases List.mem_cons.mp hd with rfl | hd
    · exact ⟨Int.emod_nonneg _ (Int.ne_of_gt (pow_pos' n)), Int.emod_lt_of_pos _ (pow_pos' n)⟩
    · exact digs_small k _ d hd
theorem val_digitsOf {n a : Int} (ha : 0 ≤ a) (hn : 0 < n) : val n.toNat (digitsOf n a) = a := by
  unfold digitsOf
  refine val_digs _ _ ha (Int.lt_of_lt_of_le (bits_lt ha) (pow_le ?_))
  have e1 := Int.mul_ediv_add_emod ((Builtin.Int.intBits a : Int) + n - 1) n
  have e3 := Int.emod_lt_of_pos ((Builtin.Int.intBits a : Int) + n - 1) hn
  have h0 : 0 ≤ ((Builtin.Int.intBits a : Int) + n - 1) / n := Int.ediv_nonneg (by omega) (by omega)
  have : ((n.toNat * (((Builtin.Int.intBits a : Int) + n - 1) / n).toNat : Nat) : Int) = n * (((Builtin.Int.intBits a : Int) + n - 1) / n) := by rw [Int.natCast_mul, Int.toNat_of_nonneg (by omega), Int.toNat_of_nonneg h0]
  omega
theorem DivInv.all {n : Nat} {b : Int} {ds : List Int} {qs : List Int} {r : Int} (h : DivInv n b ds ds.length qs r) : val n qs.reverse * b + r = val n ds := by
  have := h.eq
  rwa [Nat.sub_self, List.drop_zero] at this
theorem DivInv.pre {b : Int} {ds : List Int} {i : Nat} {qs : List Int} {r d : Int} {nb : Nat} (hnb : nb = Builtin.Int.intBits b) (hb0 : 0 < b) (hbb : nb ≤ 8500) (h : DivInv nb b ds i qs r) (hd0 : 0 ≤ d) (hd1 : d < 2 ^ nb) : Pre2 (r * 2 ^ nb + d) b nb := by
  have hpos := bits_pos hb0
  have hlt := bits_lt (a := b) (by omega)
  have hP := pow_pos' nb
  have hrP : 0 ≤ r * 2 ^ nb := Int.mul_nonneg h.r0 (Int.le_of_lt hP)
  refine ⟨by omega, by omega, ?_, by rw [hnb]; exact hlt, by omega, ?_⟩
  · rw [show ((nb : Int) - 1).toNat = nb - 1 by omega]
    rcases Int.lt_or_le b (2 ^ (nb - 1)) with h1 | h1
    · have := bits_of_lt (by omega) h1
      omega
    · exact h1
  · have h1 : (r + 1) * 2 ^ nb ≤ b * 2 ^ nb := Int.mul_le_mul_of_nonneg_right (by have := h.r1; omega) (Int.le_of_lt hP)
    rw [Int.add_mul] at h1
    rw [show ((nb : Int)).toNat = nb from Int.toNat_natCast _, Int.mul_comm (2 ^ nb) b]
    omega
theorem ints_rev {vs : List Value} {ns : List Int} (h : IntsAre vs ns) : IntsAre vs.reverse ns.reverse := by
  induction h with
  | nil => exact .nil
  | cons i t h ih =>
    rw [List.reverse_cons, List.reverse_cons]
    exact IntsAre.append ih (.cons i t .nil)
end Mine
namespace Mine
theorem digitsOf_small {nb : Nat} {a : Int} : Small nb (digitsOf (nb : Int) a) := by
  unfold digitsOf; rw [Int.toNat_natCast]; exact digs_small _ _
theorem digit_at {vs : List Value} {ns : List Int} (h : IntsAre vs ns) {i : Nat} {v : Value} (hi : i < vs.length) (hv : vs.reverse[i]? = some v) : ∃ d t, v = .int d t ∧ ns.reverse[i]? = some d ∧ d ∈ ns ∧ i < ns.length := by
  have hi' : i < ns.length := by rw [← h.length]; exact hi
  have hd : ns.reverse[i]? = some (ns.reverse[i]'(by rw [List.length_reverse]; exact hi')) := List.getElem?_eq_getElem _
  obtain ⟨t, hx⟩ := (ints_rev h).get i _ hd
  rw [hx] at hv
  exact ⟨_, t, (Option.some.inj hv).symm, hd, List.mem_reverse.mp (List.mem_of_getElem? hd), hi'⟩
section
variable {x y z : Addr × Obj} {l : Led}
theorem sub2 : ∀ p ∈ z :: l, p ∈ x :: y :: z :: l := fun _ h => .tail _ (.tail _ h)
end
end Mine
namespace Mine
section
variable {prog : Program} {w : World} {A : Around} {E : Value → Shared → Prop} {s : Shared} {h₀ : Heap} {L D : Addr} {m : Str → Option Value} {news news' : Led} {vs : List Value} {n : Nat} {x : Value} {Q : Value → Shared → Prop}
theorem append_L (F : Fr h₀ L s.heap m) (N : News h₀ L s.heap news) (U : Upd D (listOf vs.toArray n) (listOf (vs ++ [x]).toArray (n + 1)) news news') (hz : vs.length ≤ 1000000)
    (h : ∀ h', Fr h₀ L h' m → News h₀ L h' news' → Q .none { s with heap := h' }) : wpAny (model prog w) A (call (.builtin "list.append") [.ref D, x]) Q E s := by
  refine append_K F N (by rw [List.push_toArray]; exact U) h ?_
  rw [List.size_toArray]
  exact Nat.le_trans hz (by decide)
theorem reverse_L (F : Fr h₀ L s.heap m) (N : News h₀ L s.heap news) (U : Upd D (listOf vs.toArray n) (listOf vs.reverse.toArray n) news news') (hz : vs.length ≤ 1000000)
    (h : ∀ h', Fr h₀ L h' m → News h₀ L h' news' → Q .none { s with heap := h' }) : wpAny (model prog w) A (call (.builtin "list.reverse") [.ref D]) Q E s :=
  kl_reverse F N rfl (by simpa using U) (by simpa using Nat.le_trans hz (by decide)) h
end
end Mine
namespace Mine
theorem digitsOf_le {nb : Nat} {a : Int} (hn : 0 < nb) (hc : (Builtin.Int.intBits a : Int) ≤ 1000 * (nb : Int)) : (digitsOf (nb : Int) a).length ≤ 1000 := by
  unfold digitsOf
  rw [digs_len]
  have := (cnt_bounds (a := a) (n := nb) (by omega) hc).2
  rw [Int.fdiv_eq_ediv_of_nonneg _ (by omega)] at this
  omega
end Mine
namespace Mine
theorem digitsOf_mul {nb : Nat} {a : Int} (hn : 0 < nb) (hnb : nb ≤ 8500) (hab : Builtin.Int.intBits a ≤ 100000) {k : Nat} (hk : k = (digitsOf (nb : Int) a).length := by assumption) : (nb : Int) * (k : Int) ≤ 1000000 := by
  subst hk
  unfold digitsOf
  rw [digs_len]
  have e1 := Int.mul_ediv_add_emod ((Builtin.Int.intBits a : Int) + nb - 1) nb
  have e2 := Int.emod_nonneg ((Builtin.Int.intBits a : Int) + nb - 1) (show (nb : Int) ≠ 0 by omega)
  have h0 : 0 ≤ ((Builtin.Int.intBits a : Int) + nb - 1) / nb := Int.ediv_nonneg (by omega) (by omega)
  rw [Int.toNat_of_nonneg h0]
  omega
theorem DivInv.eqAll {n : Nat} {b : Int} {ds : List Int} {qs : List Int} {r : Int} {k : Nat} (h : DivInv n b ds k qs r) (hk : k = ds.length) : val n qs.reverse * b + r = val n ds := by
  subst hk; exact h.all
end Mine

end
section
namespace Mine
section
variable {prog : Program} {w : World} {A : Around} {E : Value → Shared → Prop} {s : Shared} {env : Env} {h₀ : Heap} {body : List Stmt} {Q : Flow → Shared → Prop} {elts : List Expr} {ek : Nat} {epos : Pos}
end
end Mine
namespace Mine
abbrev pobj (r : Int) (x : Str) (t1 t2 : Tok) : Obj := { cls := .type "tuple", data := .seq [.int r t1, .str x t2].toArray }
/-- a list's items are tuples of an int and a text, which stand in a ledger -/
inductive Pairs : List Value → List (Int × Str) → Led → Prop where
  | nil : Pairs [] [] []
  | cons {a : Addr} {r : Int} {x : Str} {t1 t2 : Tok} {vs : List Value} {ps : List (Int × Str)} {tps : Led} : Pairs vs ps tps → Pairs (.ref a :: vs) ((r, x) :: ps) ((a, pobj r x t1 t2) :: tps)
theorem Pairs.at {vs : List Value} {ps : List (Int × Str)} {tps : Led} (h : Pairs vs ps tps) : ∀ {i : Nat} {v : Value}, vs[i]? = some v → ∃ a r x t1 t2, v = .ref a ∧ ps[i]? = some (r, x) ∧ (a, pobj r x t1 t2) ∈ tps := by
  induction h with
  | nil => intro i v hv; simp at hv
  | @cons a r x t1 t2 vs ps tps _ ih =>
    intro i v hv
    cases i with
    | zero =>
      simp only [List.getElem?_cons_zero, Option.some.injEq] at hv
      exact ⟨a, r, x, t1, t2, hv.symm, rfl, .head _⟩
    | succ i =>
      rw [List.getElem?_cons_succ] at hv
      obtain ⟨a', r', x', u1, u2, e, h1, h2⟩ := ih hv
      exact ⟨a', r', x', u1, u2, e, by rw [List.getElem?_cons_succ]; exact h1, .tail _ h2⟩
theorem Pairs.len {vs : List Value} {ps : List (Int × Str)} {tps : Led} (h : Pairs vs ps tps) : vs.length = ps.length := by
  induction h with
  | nil => rfl
  | cons _ ih => rw [List.length_cons, List.length_cons, ih]
theorem Pairs.snoc {vs : List Value} {ps : List (Int × Str)} {tps : Led} (h : Pairs vs ps tps) (a : Addr) (r : Int) (x : Str) (t1 t2 : Tok) : Pairs (vs ++ [.ref a]) (ps ++ [(r, x)]) (tps ++ [(a, pobj r x t1 t2)]) := by
  induction h with
  | nil => exact .cons .nil
  | cons _ ih => exact .cons ih
/-- what the law's own _law_told tells -/
def toldOf (pw : Int) : List (Int × Str) → List Nat
  | [] => []
  | (r, x) :: rest => List.replicate (r / pw).toNat 34 ++ (if r % pw = 0 then x.cps.toList ++ toldOf pw rest else [])
structure ToldInv (pw : Int) (pcs : List (Int × Str)) (i : Nat) (told : Str) : Prop where
  len : told.length ≤ 30 * i
  eq : told.cps.toList ++ toldOf pw (pcs.drop i) = toldOf pw pcs
theorem ToldInv.start {pw : Int} {pcs : List (Int × Str)} : ToldInv pw pcs 0 (Str.ofString "") := ⟨by decide, by rw [show Str.ofString "" = S [] from S_lit rfl, S_cps]; rfl⟩
end Mine
namespace Mine
end Mine
namespace Mine
theorem quotes_list (q : Int) : (Txt.mul (Str.ofString "\"") q).cps.toList = List.replicate q.toNat 34 := by
  rw [quote_lit]; exact mul_one_list 34 q
theorem quotes_len {q : Int} (h0 : 0 ≤ q) : ((Txt.mul (Str.ofString "\"") q).length : Int) = q := by
  have : (Txt.mul (Str.ofString "\"") q).length = q.toNat := by
    show (Txt.mul (Str.ofString "\"") q).cps.size = _
    rw [← Array.length_toList, quotes_list, List.length_replicate]
  omega
theorem told_split {pw : Int} {pcs : List (Int × Str)} {i : Nat} {r : Int} {x : Str} (hpi : pcs[i]? = some (r, x)) : toldOf pw (pcs.drop i) = List.replicate (r / pw).toNat 34 ++ (if r % pw = 0 then x.cps.toList ++ toldOf pw (pcs.drop (i + 1)) else []) := by
  have hi : i < pcs.length := by
    rcases Nat.lt_or_ge i pcs.length with h | h
    · exact h
    · rw [List.getElem?_eq_none h] at hpi; cases hpi
  rw [List.getElem?_eq_getElem hi] at hpi
  rw [List.drop_eq_getElem_cons hi, Option.some.inj hpi, toldOf]
theorem divmod_unique {q rr r pw : Int} (hp : 0 < pw) (e1 : q * pw + rr = r) (e2 : 0 ≤ rr) (e3 : rr < pw) : r / pw = q ∧ r % pw = rr := kbt_unique hp (by rw [← e1, Int.mul_comm]; omega) e2 e3
section
variable {pw : Int} {pcs : List (Int × Str)} {i : Nat} {told x : Str} {q rr r : Int}
theorem ToldInv.next (h : ToldInv pw pcs i told) (hpi : pcs[i]? = some (r, x)) (hp : 0 < pw) (e1 : q * pw + rr = r) (e2 : 0 ≤ rr) (e3 : rr < pw) (hne : rr = 0) (hq0 : 0 ≤ q) (hq1 : q ≤ 24) (hx : x.length ≤ 1) : ToldInv pw pcs (i + 1) (told ++ Txt.mul (Str.ofString "\"") q ++ x) := by
  obtain ⟨d1, d2⟩ := divmod_unique hp e1 e2 e3
  have hl := quotes_len hq0
  have := h.len
  refine ⟨by rw [len_app, len_app]; omega, ?_⟩
  rw [cps_app, cps_app, quotes_list, ← h.eq, told_split hpi, d1, d2, if_pos hne]
  simp only [List.append_assoc]
theorem ToldInv.fin (h : ToldInv pw pcs pcs.length told) : told = S (toldOf pw pcs) := by
  apply str_of_list
  have := h.eq
  rw [List.drop_length, toldOf, List.append_nil] at this
  exact this
end
end Mine
namespace Mine
section
variable {x y : Addr × Obj} {a b n : Led}
end
end Mine

end
section
namespace Mine
def CallOkH (prog : Program) (w : World) (K : Frag) (f : Addr) (vs : List Value) (dep uni : Nat) (news : Led) (H : Heap → Prop) (Post : Value → Led → Prop) : Prop :=
  ∀ (p : Program) (loose : List Str) (mean : ExcName → Option Value) (mg mb : Str → Option Value) (dp un : Nat) (gd : Option (List Code)) (cn : Str) (cs : Scope) (a : Addr) (ccd : Value) (cl : List (Str × Addr)) (outer : List Env) (A₀ : Around) (base h₀ : Heap) (L : Addr) (m : Str → Option Value) (s : Shared) (Q E : Value → Shared → Prop),
    Below A₀ base outer h₀ → Fr h₀ L s.heap m → K.In h₀ → News h₀ L s.heap news → H h₀ → Top p loose mean mg mb h₀ → cs.kind = .function → dp + dep < recursionLimit → un + uni < cLine →
    (∀ r news' h' tk', Fr h₀ L h' m → News h₀ L h' news' → Post r news' → Q r { s with heap := h', toks := tk' }) →
    wpAny (model prog w) (ktrTop dp un gd cn cs L a ccd cl outer) (call (.ref f) vs) Q E s
def BodyOkH (prog : Program) (w : World) (K : Frag) (qual : Str) (scope : Scope) (f : Addr) (cdv : Value) (cl : List (Str × Addr)) (body : List Stmt) (binds : List (Str × Value)) (dep uni : Nat) (news : Led) (H : Heap → Prop) (Post : Value → Led → Prop) : Prop :=
  ∀ (p : Program) (loose : List Str) (mean : ExcName → Option Value) (mg mb : Str → Option Value) (dp un : Nat) (gd : Option (List Code)) (outer : List Env) (A₀ : Around) (base g : Heap) (L : Addr) (s : Shared),
    Below A₀ base outer g → Fr g L s.heap (fun y => binds.reverse.lookup y) → K.In g → News g L s.heap news → H g → (∀ p ∈ news, p.1 < L) → Top p loose mean mg mb g → dp + dep < recursionLimit → un + uni < cLine →
    wpAny (model prog w) (ktrTop dp un gd qual scope L f cdv cl outer) (execs body (envX qual scope L f cdv cl)) (Ends g L s Post) (fun _ _ => False) s
theorem callOkH_of_body {prog : Program} {w : World} {K : Frag} {f : Addr} {vs : List Value} {dep uni : Nat} {news : Led} {H : Heap → Prop} {Post : Value → Led → Prop}
    {name qual : Str} {params : Arguments} {body : List Stmt} {scope : Scope} {dV kV doc pm cdv ct oc : Value} {an od : Option Addr} {osl : Array (Option Value)} (binds : List (Str × Value))
    (ho : K.lookup f = some ⟨oc, od, .func (fnOf name qual params body scope dV kV doc pm an cdv ct), osl⟩) (hcd : codeIn K cdv qual = true)
    (hbind : ∀ s, BindsTo s (fnOf name qual params body scope dV kV doc pm an cdv ct) ⟨vs, []⟩ binds) (hloc : ∀ y ∈ binds, scope.names.lookup y.1 = some .local)
    (hH : ∀ h h' : Heap, h.StaysIn h' → H h → H h')
    (h : BodyOkH prog w K qual scope f cdv [] body binds dep uni news H Post)
    (hco : scope.isCoroutine = false) (hgen : scope.isGenerator = false) (hk : scope.kind = .function)
    (hcell : ∀ x ∈ scope.names, x.2 ≠ .cell) : CallOkH prog w K f vs (dep + 1) (uni + 3) news H Post := by
  intro p loose mean mg mb dp un gd cn cs a ccd cl outer A₀ base h₀ L m s Q E B F X N h1 T hkc hd hu hret
  refine wpAny_call ?_
  refine callX_plain (cl := []) (binds := binds) (env := envX cn cs L a ccd cl) B F N T.nolimit rfl rfl hkc ((X.keeps F.keep) _ _ ho) rfl (codeRec_of (X.keeps F.keep) hcd) (by show dp < recursionLimit; omega) (hbind s) hloc (fun g L' h₁ FG F' N' B' st lt => ?_) hcell hco hgen hk
  refine wpAny_mono (h p loose mean mg mb (dp + 1) (un + 3) gd (envX cn cs L a ccd cl :: outer) _ base g L' { s with heap := h₁, toks := s.toks + binds.length } B' F' (X.keeps st) N' (hH _ _ st h1) lt (T.keeps st) (by omega) (by omega)) (fun fl s' hl => ?_) (fun _ _ e => e.elim)
  obtain ⟨m', news', h', tk', rfl, F2, N2, hp⟩ := hl
  exact leaveK_ F2 N2 fun F3 N3 => hret _ _ _ _ F3 N3 hp
theorem CallOkH.use {prog : Program} {w : World} {K : Frag} {f : Addr} {vs : List Value} {dep uni : Nat} {news : Led} {H : Heap → Prop} {Post : Value → Led → Prop}
    {p : Program} {loose : List Str} {mean : ExcName → Option Value} {mg mb : Str → Option Value} {dp un : Nat} {gd : Option (List Code)} {cn : Str} {cs : Scope} {a : Addr} {ccd : Value} {cl : List (Str × Addr)} {outer : List Env} {A₀ : Around} {base h₀ : Heap} {L : Addr} {m : Str → Option Value} {s : Shared} {Q E : Value → Shared → Prop}
    (C : CallOkH prog w K f vs dep uni news H Post) (B : Below A₀ base outer h₀) (F : Fr h₀ L s.heap m) (X : K.In h₀) (N : News h₀ L s.heap news) (hH : H h₀) (T : Top p loose mean mg mb h₀) (hk : cs.kind = .function) (hd : dp + dep < recursionLimit) (hu : un + uni < cLine)
    (ret : ∀ r news' h' tk', Fr h₀ L h' m → News h₀ L h' news' → Post r news' → Q r { s with heap := h', toks := tk' }) :
    wpAny (model prog w) (ktrTop dp un gd cn cs L a ccd cl outer) (call (.ref f) vs) Q E s :=
  C p loose mean mg mb dp un gd cn cs a ccd cl outer A₀ base h₀ L m s Q E B F X N hH T hk hd hu ret
/-- the script's list, at a heap -/
def ListAt (l : Addr) (vs : List Value) (h : Heap) : Prop := ∃ lo e, h.get? l = some lo ∧ lo.cls = .type "list" ∧ lo.data = .seq vs.toArray e
theorem ListAt.keep {l : Addr} {vs : List Value} : ∀ h h' : Heap, h.StaysIn h' → ListAt l vs h → ListAt l vs h' := fun _ _ st ⟨lo, e, h1, h2, h3⟩ => ⟨lo, e, st _ _ h1, h2, h3⟩
theorem ListAt.isList {l : Addr} {vs : List Value} {h : Heap} (x : ListAt l vs h) : h.IsList l vs.toArray := let ⟨lo, e, h1, h2, h3⟩ := x; ⟨lo, h1, h2, e, h3⟩
theorem ListAt.of {l : Addr} {vs : List Value} {h : Heap} (x : h.IsList l vs.toArray) : ListAt l vs h := let ⟨lo, h1, h2, e, h3⟩ := x; ⟨lo, e, h1, h2, h3⟩
end Mine
namespace Mine
theorem int_at {vs : List Value} {ns : List Int} (h : IntsAre vs ns) {i : Nat} {v : Value} (hv : vs[i]? = some v) : ∃ x t, v = .int x t ∧ ns[i]? = some x := by
  have hi : i < vs.length := by
    rcases Nat.lt_or_ge i vs.length with h | h
    · exact h
    · rw [List.getElem?_eq_none h] at hv; cases hv
  have hi' : i < ns.length := by rw [← h.length]; exact hi
  have hd : ns[i]? = some ns[i] := List.getElem?_eq_getElem hi'
  obtain ⟨t, hx⟩ := h.get i _ hd
  rw [hx] at hv
  exact ⟨_, t, (Option.some.inj hv).symm, hd⟩
end Mine
namespace Mine
section
variable {x y z u : Addr × Obj} {n : Led}
end
end Mine
namespace Mine
theorem abs_eq (x : Int) : (if x < 0 then -x else x) = (x.natAbs : Int) := by split <;> omega
theorem fmod_nat (a b : Nat) : (a : Int).fmod (b : Int) = ((a % b : Nat) : Int) := by rw [Int.fmod_eq_emod_of_nonneg _ (by omega)]; rfl
theorem fdiv_nat (a b : Nat) : (a : Int).fdiv (b : Int) = ((a / b : Nat) : Int) := by rw [Int.fdiv_eq_ediv_of_nonneg _ (by omega)]; rfl
theorem take_map {α β : Type} {f : α → β} {xs : List α} {i : Nat} {x : α} (h : xs[i]? = some x) : (xs.take (i + 1)).map f = (xs.take i).map f ++ [f x] := by
  rw [List.take_add_one, h]; simp
end Mine
namespace Mine
end Mine

end
section
namespace Mine
/-- the pieces of the law's text: signs that are no quotes between the runs, none behind the last -/
inductive Good : List (Int × Str) → Prop where
  | last (r : Int) : 0 ≤ r → r ≤ 24 → Good [(r, S [])]
  | cons (r : Int) (c : Nat) (rest : List (Int × Str)) : 0 ≤ r → r ≤ 24 → c ≠ 34 → Good rest → Good ((r, S [c]) :: rest)
/-- one piece as it stands in the text -/
theorem Good.ok {pcs : List (Int × Str)} (h : Good pcs) : ∀ p ∈ pcs, 0 ≤ p.1 ∧ p.1 ≤ 24 ∧ p.2.length ≤ 1 := by
  induction h with
  | last r h0 h1 => intro p hp; rw [List.mem_singleton.mp hp]; exact ⟨h0, h1, by rw [S_len]; simp⟩
  | cons r c rest h0 h1 hc hG ih =>
    intro p hp
    rcases List.mem_cons.mp hp with rfl | hp
    · exact ⟨h0, h1, by rw [S_len]; simp⟩
    · exact ih p hp
theorem open_app (t : List Nat) : Str.ofString "257 \"" ++ S t = S (opening ++ t) := by
  rw [show Str.ofString "257 \"" = S opening from S_lit rfl, S_app]
end Mine
namespace Mine
open LCg LCp
section
variable {prog : Program} {w : World} {A : Around} {s : Shared} {h₀ : Heap} {L : Addr} {m : Str → Option Value} {env : Env}
theorem compRest_of {elt : Expr} {x : Str} {scope : Scope} {cl : List (Str × Addr)} {S : Led → Prop} {P : Nat → Value → Prop} {Fin : List Value → Led → Prop} (Inv : Nat → List Value → Led → Prop) (n : Nat)
    (turn : ∀ i ys news v, i < n → P i v → Inv i ys news →
      ∀ I oI C oC D m₂ h tk (E' : Value → Shared → Prop), NsObj oC m₂ → m₂ x = some v → Fr h₀ L h m → News h₀ L h ((I, oI) :: (C, oC) :: (D, lst ys) :: news) → Off3 I C D news → ((@Ne Nat I C) ∧ (@Ne Nat I D) ∧ (@Ne Nat C D)) →
      wpAny (model prog w) A (eval elt (compEnvC scope cl C env)) (CompEnd h₀ L m { s with heap := h, toks := tk } I oI C oC D (lst ys) S (fun y news' => Inv (i + 1) (ys ++ [y]) news')) E' { s with heap := h, toks := tk })
    (fin : ∀ ys news, Inv n ys news → Fin ys news) : ∀ (k i : Nat) (ys : List Value) (news : Led), i + k = n → Inv i ys news → CompRest prog w A h₀ L m env elt x scope cl s S P Fin k i ys news := by
  intro k
  induction k with
  | zero => intro i ys news hi hI; exact CompRest.zero (fin _ _ (by rw [← hi]; exact hI))
  | succ k ih =>
    intro i ys news hi hI
    refine CompRest.succ fun v I oI C oC D m₂ h tk E' hv a1 a2 a4 a5 a6 a7 => ?_
    refine wpAny_mono (turn i ys news v (by omega) hv hI I oI C oC D m₂ h tk E' a1 a2 a4 a5 a6 a7) (fun y s₂ hs => ?_) fun _ _ e => e
    obtain ⟨h', tk', news', e, F, N, off, hS, r⟩ := hs
    exact ⟨h', tk', news', e, F, N, off, hS, ih (i + 1) _ _ (by omega) r⟩
end
end Mine

end
section
namespace Mine
/-- one piece of law 2's front -/
def frontPiece (x : Int) : List Nat := let z := x.natAbs; let c := z / 9 % 1114111; if z % 3 = 0 then [34, 34] else if z % 9 = 4 then [34] else if c < 34 then [c] else [c + 1]
def frontOf (xs : List Int) : List Nat := (xs.map frontPiece).flatten
theorem frontPiece_len (x : Int) : (frontPiece x).length ≤ 2 := by
  unfold frontPiece; dsimp only; split
  · simp
  · split
    · simp
    · split <;> simp
theorem front_len (xs : List Int) : (frontOf xs).length ≤ 2 * xs.length := by
  induction xs with
  | nil => simp [frontOf]
  | cons x r ih =>
    have := frontPiece_len x
    simp only [frontOf, List.map_cons, List.flatten_cons, List.length_append, List.length_cons] at ih ⊢
    omega
/-- the three ways a front ends -/
inductive St where | on | half | shut
def St.text : St → Str | .on => Str.ofString "on" | .half => Str.ofString "half" | .shut => Str.ofString "shut"
def go : List Nat → Bool → List Nat × St
  | [], false => ([], .on)
  | [], true => ([], .half)
  | c :: r, true => if c = 34 then (34 :: (go r false).1, (go r false).2) else ([], .shut)
  | c :: r, false => if c = 34 then go r true else (c :: (go r false).1, (go r false).2)
def more : St → List Nat → List Nat | .on, t => rd t | .half, t => rd (34 :: t) | .shut, _ => []
theorem rd_go (f t : List Nat) : rd (f ++ t) = (go f false).1 ++ more (go f false).2 t ∧ rd (34 :: (f ++ t)) = (go f true).1 ++ more (go f true).2 t := by
  induction f with
  | nil => constructor <;> rfl
  | cons c r ih =>
    obtain ⟨h1, h2⟩ := ih
    by_cases hc : c = 34
    · subst hc
      refine ⟨?_, ?_⟩
      · rw [go, if_pos rfl, List.cons_append, h2]
      · rw [go, if_pos rfl, List.cons_append, rd_qq, h1, List.cons_append]
    · refine ⟨?_, ?_⟩
      · rw [go, if_neg hc, List.cons_append, rd_c _ hc, h1, List.cons_append]
      · rw [go, if_neg hc, List.cons_append, rd_qc _ hc]; rfl
theorem front_snoc {xs : List Int} {i : Nat} {x : Int} {fr y : Str} (hP : fr = S (frontOf (xs.take i))) (hx : xs[i]? = some x) (hy : y = S (frontPiece x)) : fr ++ y = S (frontOf (xs.take (i + 1))) := by
  rw [hP, hy, S_app, frontOf, frontOf, take_map hx, List.flatten_append, List.flatten_singleton]
section
variable {x : Int}
theorem fmod_abs (m : Nat) : (if x < 0 then -x else x).fmod (m : Int) = ((x.natAbs % m : Nat) : Int) := by rw [abs_eq, fmod_nat]
theorem code9 : ((if x < 0 then -x else x).fdiv 9).fmod 1114111 = ((x.natAbs / 9 % 1114111 : Nat) : Int) := by
  rw [abs_eq]
  have e2 : (x.natAbs : Int).fdiv 9 = ((x.natAbs / 9 : Nat) : Int) := fdiv_nat _ 9
  have e3 : (((x.natAbs / 9 : Nat) : Int)).fmod 1114111 = ((x.natAbs / 9 % 1114111 : Nat) : Int) := fmod_nat _ 1114111
  rw [e2, e3]
theorem front_q2 (h : (if x < 0 then -x else x).fmod 3 = 0) : Str.ofString "\"\"" = S (frontPiece x) := by
  have h' : ((x.natAbs % 3 : Nat) : Int) = 0 := (fmod_abs 3).symm.trans h
  rw [frontPiece]; rw [if_pos (by omega)]; exact S_lit rfl
theorem front_q1 (h : (if x < 0 then -x else x).fmod 3 ≠ 0) (k : (if x < 0 then -x else x).fmod 9 = 4) : Str.ofString "\"" = S (frontPiece x) := by
  have h' : ((x.natAbs % 3 : Nat) : Int) ≠ 0 := fun e => h ((fmod_abs 3).trans e)
  have k' : ((x.natAbs % 9 : Nat) : Int) = 4 := (fmod_abs 9).symm.trans k
  rw [frontPiece]; rw [if_neg (by omega), if_pos (by omega)]; exact S_lit rfl
theorem front_lt (h : (if x < 0 then -x else x).fmod 3 ≠ 0) (k : (if x < 0 then -x else x).fmod 9 ≠ 4) (c : ((if x < 0 then -x else x).fdiv 9).fmod 1114111 < 34) : (⟨#[(((if x < 0 then -x else x).fdiv 9).fmod 1114111).toNat]⟩ : Str) = S (frontPiece x) := by
  have h' : ((x.natAbs % 3 : Nat) : Int) ≠ 0 := fun e => h ((fmod_abs 3).trans e)
  have k' : ((x.natAbs % 9 : Nat) : Int) ≠ 4 := fun e => k ((fmod_abs 9).trans e)
  rw [code9] at c ⊢
  rw [frontPiece]; rw [if_neg (by omega), if_neg (by omega), if_pos (by omega)]; rfl
theorem front_ge (h : (if x < 0 then -x else x).fmod 3 ≠ 0) (k : (if x < 0 then -x else x).fmod 9 ≠ 4) (c : ¬ ((if x < 0 then -x else x).fdiv 9).fmod 1114111 < 34) : (⟨#[(((if x < 0 then -x else x).fdiv 9).fmod 1114111 + 1).toNat]⟩ : Str) = S (frontPiece x) := by
  have h' : ((x.natAbs % 3 : Nat) : Int) ≠ 0 := fun e => h ((fmod_abs 3).trans e)
  have k' : ((x.natAbs % 9 : Nat) : Int) ≠ 4 := fun e => k ((fmod_abs 9).trans e)
  rw [code9] at c ⊢
  rw [frontPiece]; rw [if_neg (by omega), if_neg (by omega), if_neg (by omega)]; rfl
end
end Mine

end
section
namespace Mine
section
variable {prog : Program} {w : World} {A : Around} {E : Value → Shared → Prop} {s : Shared} {env : Env} {h₀ : Heap} {x : Str} {body : List Stmt} {Q : Flow → Shared → Prop}
theorem walks_more {I l : Addr} {n : Nat} {Pv : Nat → Value → Prop} {St : Nat → Heap → Prop} (W : Walks prog w A I [I] [I] n Pv St) : Walks prog w A I [I, l] [I] n Pv St where
  sub := fun b hb => List.mem_cons.mpr (.inl (List.mem_singleton.mp hb))
  frame := fun i h h' st hk => W.frame i h h' st fun b hb o e => hk b (List.mem_cons.mpr (.inl (List.mem_singleton.mp hb))) o e
  item := W.item
  done := W.done
  self := W.self
/-- a for over a text's signs; l is any object of the ground -/
theorem iter_str {σ : Type} {l : Addr} {lo : Obj} {f : List Nat} {tf : Tok} {m₀ : Str → Option Value} (Led : σ → Mine.Led) (ps : σ → List (Str × Value)) (stored : List Str) (P : Nat → σ → Prop) (c₀ : σ)
    (hh : A.handled = none) (hx : stored.contains x = true) (hl : h₀.get? l = some lo)
    (F : Fr h₀ env.locals s.heap m₀) (N : News h₀ env.locals s.heap (Led c₀)) (hk : ∀ p ∈ ps c₀, m₀ p.1 = some p.2) (hp : P 0 c₀)
    (turn : ∀ (i : Nat) (k : Nat) (v : Tok) (c : σ) (u : Str → Option Value) (h : Heap) (tk : Nat) (I : Addr) (it : Obj), i < f.length → f[i]? = some k → P i c → (∀ p ∈ Led c, p.1 ≠ I) → Fr h₀ env.locals h (fun y => if y = x then some (.str (S [k]) v) else kstB (fun z => if stored.contains z then u z else m₀ z) (ps c) y) → News h₀ env.locals h ((I, it) :: Led c) →
      wpAny (model prog w) A (execs body env) (TurnPost h₀ env.locals I it { s with heap := h, toks := tk } Led ps stored m₀ P i Q) E { s with heap := h, toks := tk })
    (done : ∀ (c : σ) (u : Str → Option Value) (h : Heap) (tk : Nat), P f.length c → Fr h₀ env.locals h (kstB (fun z => if stored.contains z then u z else m₀ z) (ps c)) → News h₀ env.locals h (Led c) → Q .next { s with heap := h, toks := tk }) :
    wpAny (model prog w) A (pyIter (.str (S f) tf)) (fun it s₂ => LoopAtV prog w A h₀ env x body Q E it s₂) E s := by
  have hLs : env.locals < s.heap.objs.size := F.ns.lt
  have hlen : (S f).cps.size = f.length := by simp [S]
  have hturn : ∀ (i : Nat) (v : Value) (c : σ) (u : Str → Option Value) (h : Heap) (tk : Nat) (it : Obj), i < f.length → SignAt (S f) i v → P i c → (∀ p ∈ Led c, p.1 ≠ s.heap.objs.size) → Fr h₀ env.locals h (fun y => if y = x then some v else kstB (fun z => if stored.contains z then u z else m₀ z) (ps c) y) → News h₀ env.locals h ((s.heap.objs.size, it) :: Led c) →
      wpAny (model prog w) A (execs body env) (TurnPost h₀ env.locals s.heap.objs.size it { s with heap := h, toks := tk } Led ps stored m₀ P i Q) E { s with heap := h, toks := tk } := by
    rintro i v c u h tk it hi ⟨k, t', hk', rfl⟩ hP hne F' N'
    exact turn i k t' c u h tk _ it hi (by simpa [S] using hk') hP hne F' N'
  cases ha : (S f).cps.all (· < 128)
  · refine wpAny_pyIter_wide ha ?_
    have W := Walks.strWide (prog := prog) (w := w) hh s.heap.objs.size (S f) tf
    rw [hlen] at W
    refine loop_walk (lo := lo) (walks_more (l := l) W) ⟨_, Heap.get?_push_size _ rfl, rfl, rfl⟩ Led ps stored P c₀ hx (.inr hl) (next_is_new F) (Nat.ne_of_gt hLs) (F.push _) (fun p hp => ⟨Heap.get?_push_of_some _ (N p hp).1, (N p hp).2⟩)
      (fun p hp => Nat.ne_of_lt (Heap.lt_size (N p hp).1)) hk hp (fun i h hs => ?_) hturn done
    obtain ⟨o, ho, _⟩ := hs
    exact ⟨o, ho⟩
  · refine wpAny_pyIter_ascii ha ?_
    have W := Walks.strAscii (prog := prog) (w := w) hh s.heap.objs.size (S f) tf
    rw [hlen] at W
    refine loop_walk (lo := lo) (walks_more (l := l) W) ⟨_, Heap.get?_push_size _ rfl, rfl, rfl⟩ Led ps stored P c₀ hx (.inr hl) (next_is_new F) (Nat.ne_of_gt hLs) (F.push _) (fun p hp => ⟨Heap.get?_push_of_some _ (N p hp).1, (N p hp).2⟩)
      (fun p hp => Nat.ne_of_lt (Heap.lt_size (N p hp).1)) hk hp (fun i h hs => ?_) hturn done
    obtain ⟨o, ho, _⟩ := hs
    exact ⟨o, ho⟩
end
end Mine
namespace Mine
abbrev sobj (x y : Str) (t1 t2 : Tok) : Obj := { cls := .type "tuple", data := .seq [.str x t1, .str y t2].toArray }
structure GoInv (f : List Nat) (i : Nat) (told : Str) (half : Bool) : Prop where
  le : i ≤ f.length
  len : told.length ≤ i
  eq1 : told.cps.toList ++ (go (f.drop i) half).1 = (go f false).1
  eq2 : (go (f.drop i) half).2 = (go f false).2
theorem GoInv.start {f : List Nat} : GoInv f 0 (Str.ofString "") false := ⟨Nat.zero_le _, Nat.le_refl 0, by rw [show Str.ofString "" = S [] from S_lit rfl, S_cps]; rfl, rfl⟩
theorem drop_at {f : List Nat} {i k : Nat} (hv : f[i]? = some k) : i < f.length ∧ f.drop i = k :: f.drop (i + 1) := by
  have hi : i < f.length := by
    rcases Nat.lt_or_ge i f.length with h | h
    · exact h
    · rw [List.getElem?_eq_none h] at hv; cases hv
  rw [List.getElem?_eq_getElem hi] at hv
  rw [List.drop_eq_getElem_cons hi, Option.some.inj hv]
  exact ⟨hi, rfl⟩
theorem ne_quote {k : Nat} (h : (S [k] != Str.ofString "\"") = true) : k ≠ 34 := by rw [quote_lit, S1_ne] at h; simpa using h
theorem is_quote {k : Nat} (h : (S [k] != Str.ofString "\"") = false) : k = 34 := by rw [quote_lit, S1_ne] at h; simpa using h
section
variable {f : List Nat} {i k : Nat} {told : Str} {half : Bool}
theorem GoInv.shut (h : GoInv f i told half) (hv : f[i]? = some k) (hh : half = true) (hk : (S [k] != Str.ofString "\"") = true) : told = S (go f false).1 ∧ Str.ofString "shut" = (go f false).2.text := by
  subst hh
  obtain ⟨hi, hd⟩ := drop_at hv
  have h1 := h.eq1; have h2 := h.eq2
  rw [hd, go, if_neg (ne_quote hk)] at h1 h2
  rw [List.append_nil] at h1
  exact ⟨str_of_list h1, by rw [← h2]; rfl⟩
theorem GoInv.add1 (h : GoInv f i told half) (hv : f[i]? = some k) (hh : half = true) (hk : (S [k] != Str.ofString "\"") = false) : GoInv f (i + 1) (told ++ S [k]) false := by
  subst hh
  obtain ⟨hi, hd⟩ := drop_at hv
  have h1 := h.eq1; have h2 := h.eq2; have h3 := h.len
  have h4 := is_quote hk
  subst h4
  rw [hd, go, if_pos rfl] at h1 h2
  refine ⟨hi, by rw [len_app, S_len]; simp; omega, ?_, h2⟩
  rw [cps_app, S_cps, ← h1]; simp
theorem GoInv.add2 (h : GoInv f i told half) (hv : f[i]? = some k) (hh : half = false) (hk : (S [k] != Str.ofString "\"") = true) : GoInv f (i + 1) (told ++ S [k]) false := by
  subst hh
  obtain ⟨hi, hd⟩ := drop_at hv
  have h1 := h.eq1; have h2 := h.eq2; have h3 := h.len
  rw [hd, go, if_neg (ne_quote hk)] at h1 h2
  refine ⟨hi, by rw [len_app, S_len]; simp; omega, ?_, h2⟩
  rw [cps_app, S_cps, ← h1]; simp
theorem GoInv.wait (h : GoInv f i told half) (hv : f[i]? = some k) (hh : half = false) (hk : (S [k] != Str.ofString "\"") = false) : GoInv f (i + 1) told true := by
  subst hh
  obtain ⟨hi, hd⟩ := drop_at hv
  have h1 := h.eq1; have h2 := h.eq2; have h3 := h.len
  rw [hd, go, if_pos (is_quote hk)] at h1 h2
  exact ⟨hi, by omega, h1, h2⟩
theorem GoInv.fin (h : GoInv f f.length told half) : told = S (go f false).1 ∧ (if half then Str.ofString "half" else Str.ofString "on") = (go f false).2.text := by
  have h1 := h.eq1; have h2 := h.eq2
  rw [List.drop_length] at h1 h2
  cases half with
  | true =>
    rw [go] at h1 h2
    rw [List.append_nil] at h1
    exact ⟨str_of_list h1, by rw [← h2]; rfl⟩
  | false =>
    rw [go] at h1 h2
    rw [List.append_nil] at h1
    exact ⟨str_of_list h1, by rw [← h2]; rfl⟩
theorem GoInv.fin1 (h : GoInv f f.length told half) (hh : half = true) : told = S (go f false).1 ∧ Str.ofString "half" = (go f false).2.text := by subst hh; exact h.fin
theorem GoInv.fin0 (h : GoInv f f.length told half) (hh : half = false) : told = S (go f false).1 ∧ Str.ofString "on" = (go f false).2.text := by subst hh; exact h.fin
end
theorem sub_st {x y : Addr × Obj} {n : Led} : ∀ p ∈ x :: n, p ∈ x :: y :: n := by
  intro p hp
  rcases List.mem_cons.mp hp with h | h
  · exact List.mem_cons.mpr (.inl h)
  · exact .tail _ (.tail _ h)
theorem sobj_eq {ad : Addr} {a b c d : Str} {t1 t2 : Tok} {news : Led} (e1 : a = b) (e2 : c = d) : (ad, sobj a c t1 t2) :: news = (ad, sobj b d t1 t2) :: news := by rw [e1, e2]
end Mine

end
section
namespace Mine
theorem digs_val {n : Nat} : ∀ ds : List Int, Small n ds → digs n (val n ds) ds.length = ds
  | [], _ => rfl
  | d :: r, h => by
    have hd := h d (.head _)
    have hp := pow_pos' n
    rw [List.length_cons, digs, val]
    have e1 : (d + 2 ^ n * val n r) % 2 ^ n = d := by rw [Int.add_mul_emod_self_left, Int.emod_eq_of_lt hd.1 hd.2]
    have e2 : (d + 2 ^ n * val n r) / 2 ^ n = val n r := by rw [Int.add_mul_ediv_left _ _ (Int.ne_of_gt hp), Int.ediv_eq_zero_of_lt hd.1 hd.2, Int.zero_add]
    rw [e1, e2, digs_val r fun x hx => h x (.tail _ hx)]
theorem digitsOf_val {n : Nat} {ds : List Int} {d : Int} (hn : 0 < n) (hs : Small n (ds ++ [d])) (hd : 0 < d) : digitsOf (n : Int) (val n (ds ++ [d])) = ds ++ [d] := by
  have hb := val_bounds n _ hs
  have hlo := (val_bounds n ds fun x hx => hs x (List.mem_append_left _ hx)).1
  have hp := pow_pos' (n * ds.length)
  have hge : 2 ^ (n * ds.length) ≤ val n (ds ++ [d]) := by
    rw [val_app, val_one]
    have : 2 ^ (n * ds.length) * 1 ≤ 2 ^ (n * ds.length) * d := Int.mul_le_mul_of_nonneg_left (by omega) (Int.le_of_lt hp)
    omega
  have hl : (ds ++ [d]).length = ds.length + 1 := by simp
  have hb1 := bits_of_lt hb.1 hb.2
  have hb2 : n * ds.length < Builtin.Int.intBits (val n (ds ++ [d])) := by
    rcases Nat.lt_or_ge (n * ds.length) (Builtin.Int.intBits (val n (ds ++ [d]))) with h | h
    · exact h
    · have h1 := bits_lt hb.1
      have h2 := pow_le h
      omega
  have key : (((Builtin.Int.intBits (val n (ds ++ [d])) : Int) + (n : Int) - 1) / (n : Int)).toNat = (ds ++ [d]).length := by
    rw [hl] at hb1 ⊢
    rw [Nat.mul_add, Nat.mul_one] at hb1
    have e : ((Builtin.Int.intBits (val n (ds ++ [d])) : Int) + (n : Int) - 1) / (n : Int) = ((ds.length + 1 : Nat) : Int) := by
      have h3 : ((n * ds.length : Nat) : Int) = (n : Int) * (ds.length : Int) := Int.natCast_mul _ _
      refine (kbt_unique (r := (Builtin.Int.intBits (val n (ds ++ [d])) : Int) + (n : Int) - 1 - (n : Int) * ((ds.length + 1 : Nat) : Int)) (by omega) ?_ ?_ ?_).1
      · omega
      · rw [show ((ds.length + 1 : Nat) : Int) = (ds.length : Int) + 1 from rfl, Int.mul_add]; omega
      · rw [show ((ds.length + 1 : Nat) : Int) = (ds.length : Int) + 1 from rfl, Int.mul_add]; omega
    rw [e, Int.toNat_natCast]
  unfold digitsOf
  rw [key, Int.toNat_natCast]
  exact digs_val _ hs
/-- the fraction's parts -/
def tokN (o x u v : Int) : Int := x * x - o * u * x - v
def endN (o x : Int) : Int := x * x - o * x - 1
def lowN (o x u v : Int) : Int := (x - o - 1) * tokN o x u v
def upN (o x u v : Int) : St → Int
  | .on => x * endN o x
  | .half => (x - 1) * tokN o x u v + v * endN o x
  | .shut => x * tokN o x u v
/-- how many ways there are, weighed, by the state in which they end -/
structure Vec where
  a : Int
  h : Int
  s : Int
def Vec.sum (c : Vec) : Int := c.a + c.h + c.s
def Vec.step (o u v : Int) (c : Vec) : Vec := ⟨o * u * c.a + v * c.h, c.a, o * c.h + (o + 1) * c.s⟩
def Vec.num (o x u v : Int) (c : Vec) : Int := c.a * upN o x u v .on + c.h * upN o x u v .half + c.s * upN o x u v .shut
theorem num_step (o x u v : Int) (c : Vec) : x * c.num o x u v = (c.step o u v).num o x u v + c.sum * x * lowN o x u v := by
  obtain ⟨a, h, s⟩ := c
  simp only [Vec.num, Vec.step, Vec.sum, upN, lowN, tokN, endN]
  grind
def St.vec : St → Vec | .on => ⟨1, 0, 0⟩ | .half => ⟨0, 1, 0⟩ | .shut => ⟨0, 0, 1⟩
theorem num_vec (o x u v : Int) (st : St) : st.vec.num o x u v = upN o x u v st := by
  cases st <;> simp [St.vec, Vec.num]
def rowsOf (o u v : Int) : Vec → Nat → List Int
  | c, 0 => [c.sum]
  | c, m + 1 => c.sum :: rowsOf o u v (c.step o u v) m
def lastOf (o u v : Int) : Vec → Nat → Vec
  | c, 0 => c
  | c, m + 1 => lastOf o u v (c.step o u v) m
theorem rows_len (o u v : Int) : ∀ (m : Nat) (c : Vec), (rowsOf o u v c m).length = m + 1
  | 0, _ => rfl
  | m + 1, c => by rw [rowsOf, List.length_cons, rows_len]
theorem quo_eq (o u v : Int) (W : Nat) : ∀ (m : Nat) (c : Vec), c.num o (2 ^ W) u v * (2 ^ W) ^ m = val W (rowsOf o u v c m).reverse * lowN o (2 ^ W) u v + ((lastOf o u v c m).num o (2 ^ W) u v - (lastOf o u v c m).sum * lowN o (2 ^ W) u v)
  | 0, c => by
    rw [rowsOf, lastOf, List.reverse_singleton, val_one, Int.pow_zero]
    omega
  | m + 1, c => by
    have ih := quo_eq o u v W m (c.step o u v)
    have hs := num_step o (2 ^ W) u v c
    rw [rowsOf, lastOf, List.reverse_cons, val_app, val_one, List.length_reverse, rows_len, Int.add_mul, Int.pow_mul]
    have e : c.num o (2 ^ W) u v * (2 ^ W) ^ (m + 1) = (2 ^ W * c.num o (2 ^ W) u v) * (2 ^ W) ^ m := by
      rw [Int.pow_succ]; grind
    rw [e, hs, Int.add_mul, ih, Int.pow_succ]
    grind
end Mine

end
section
namespace Mine
def Vec.Pos (c : Vec) : Prop := 0 ≤ c.a ∧ 0 ≤ c.h ∧ 0 ≤ c.s
structure Base (o x u v : Int) : Prop where
  o1 : 1 ≤ o
  o2 : o ≤ 2
  u1 : 1 ≤ u
  uv : u ≤ v
  vx : 8 * v ≤ x
  x1 : 100 ≤ x
section
variable {o x u v : Int}
theorem Base.ou (h : Base o x u v) : 0 ≤ o * u ∧ o * u ≤ 2 * v := by
  have := h.o1; have := h.o2; have := h.u1; have := h.uv
  rcases (show o = 1 ∨ o = 2 by omega) with e | e <;> rw [e] <;> omega
theorem Base.tok (h : Base o x u v) : 5 * (x * x) ≤ 8 * tokN o x u v ∧ tokN o x u v ≤ x * x := by
  obtain ⟨h1, h2⟩ := h.ou
  have hv := h.vx; have hx := h.x1; have hu := h.u1; have huv := h.uv
  have a1 : (4 * (o * u)) * x ≤ x * x := Int.mul_le_mul_of_nonneg_right (by omega) (by omega)
  have a2 : 0 ≤ o * u * x := Int.mul_nonneg h1 (by omega)
  have a3 : 1 * x ≤ x * x := Int.mul_le_mul_of_nonneg_right (by omega) (by omega)
  rw [Int.mul_assoc] at a1
  unfold tokN
  omega
theorem Base.ends (h : Base o x u v) : 0 ≤ endN o x ∧ endN o x ≤ x * x := by
  have hx := h.x1; have := h.o1; have := h.o2
  have a1 : 3 * x ≤ x * x := Int.mul_le_mul_of_nonneg_right (by omega) (by omega)
  have a2 : o * x ≤ 2 * x := Int.mul_le_mul_of_nonneg_right (by omega) (by omega)
  have a3 : 0 ≤ o * x := Int.mul_nonneg (by omega) (by omega)
  unfold endN
  omega
theorem Base.low (h : Base o x u v) : (x - 3) * tokN o x u v ≤ lowN o x u v ∧ 0 < lowN o x u v := by
  have ht := h.tok
  have hx := h.x1; have := h.o1; have := h.o2
  have a0 : 1 * 1 ≤ x * x := Int.mul_le_mul (by omega) (by omega) (by omega) (by omega)
  have ht0 : 0 < tokN o x u v := by omega
  refine ⟨Int.mul_le_mul_of_nonneg_right (by omega) (by omega), Int.mul_pos (by omega) ht0⟩
theorem Base.up (h : Base o x u v) (st : St) : 0 ≤ upN o x u v st ∧ upN o x u v st ≤ 2 * lowN o x u v := by
  obtain ⟨t1, t2⟩ := h.tok
  obtain ⟨e1, e2⟩ := h.ends
  obtain ⟨l1, l2⟩ := h.low
  have hv := h.vx; have hx := h.x1; have hu := h.u1; have huv := h.uv
  have a0 : 1 * 1 ≤ x * x := Int.mul_le_mul (by omega) (by omega) (by omega) (by omega)
  have b1 : (x - 3) * (5 * (x * x)) ≤ (x - 3) * (8 * tokN o x u v) := Int.mul_le_mul_of_nonneg_left t1 (by omega)
  have b2 : (x - 3) * (5 * (x * x)) = 5 * (x * (x * x)) - 15 * (x * x) := by grind
  have b3 : (x - 3) * (8 * tokN o x u v) = 8 * ((x - 3) * tokN o x u v) := by grind
  have b4 : 100 * (x * x) ≤ x * (x * x) := Int.mul_le_mul_of_nonneg_right hx (by omega)
  have b5 : (x - 3) * tokN o x u v = x * tokN o x u v - 3 * tokN o x u v := by grind
  have b6 : 100 * tokN o x u v ≤ x * tokN o x u v := Int.mul_le_mul_of_nonneg_right hx (by omega)
  have b7 : (x - 1) * tokN o x u v = x * tokN o x u v - tokN o x u v := by grind
  have c1 : x * endN o x ≤ x * (x * x) := Int.mul_le_mul_of_nonneg_left e2 (by omega)
  have c2 : 0 ≤ x * endN o x := Int.mul_nonneg (by omega) e1
  have d1 : v * endN o x ≤ v * (x * x) := Int.mul_le_mul_of_nonneg_left e2 (by omega)
  have d2 : 0 ≤ v * endN o x := Int.mul_nonneg (by omega) e1
  have d3 : (8 * v) * (x * x) ≤ x * (x * x) := Int.mul_le_mul_of_nonneg_right hv (by omega)
  rw [Int.mul_assoc] at d3
  cases st <;> simp only [upN] <;> omega
theorem Vec.step_pos {c : Vec} (h : Base o x u v) (hc : c.Pos) : (c.step o u v).Pos := by
  obtain ⟨a, b, d⟩ := hc
  have := h.o1; have := h.u1; have := h.uv
  obtain ⟨e1, e2⟩ := h.ou
  exact ⟨Int.add_nonneg (Int.mul_nonneg e1 a) (Int.mul_nonneg (by omega) b), a, Int.add_nonneg (Int.mul_nonneg (by omega) b) (Int.mul_nonneg (by omega) d)⟩
theorem Vec.num_bounds {c : Vec} (h : Base o x u v) (hc : c.Pos) : 0 ≤ c.num o x u v ∧ c.num o x u v ≤ c.sum * (2 * lowN o x u v) := by
  obtain ⟨a, b, d⟩ := hc
  obtain ⟨a1, a2⟩ := h.up .on
  obtain ⟨b1, b2⟩ := h.up .half
  obtain ⟨d1, d2⟩ := h.up .shut
  have f1 := Int.mul_nonneg a a1
  have f2 := Int.mul_nonneg b b1
  have f3 := Int.mul_nonneg d d1
  have g1 := Int.mul_le_mul_of_nonneg_left a2 a
  have g2 := Int.mul_le_mul_of_nonneg_left b2 b
  have g3 := Int.mul_le_mul_of_nonneg_left d2 d
  unfold Vec.num Vec.sum
  rw [Int.add_mul, Int.add_mul]
  omega
theorem Vec.step_sum {c : Vec} (h : Base o x u v) (hc : c.Pos) : (c.step o u v).sum ≤ 4 * v * c.sum := by
  obtain ⟨a, b, d⟩ := hc
  have o1 := h.o1; have o2 := h.o2; have u1 := h.u1; have uv := h.uv
  obtain ⟨e1, e2⟩ := h.ou
  have f1 : (o * u + 1) * c.a ≤ (4 * v) * c.a := Int.mul_le_mul_of_nonneg_right (by omega) a
  have f2 : (v + o) * c.h ≤ (4 * v) * c.h := Int.mul_le_mul_of_nonneg_right (by omega) b
  have f3 : (o + 1) * c.s ≤ (4 * v) * c.s := Int.mul_le_mul_of_nonneg_right (by omega) d
  have k1 : (o * u + 1) * c.a = o * u * c.a + c.a := by grind
  have k2 : (v + o) * c.h = v * c.h + o * c.h := by grind
  show o * u * c.a + v * c.h + c.a + (o * c.h + (o + 1) * c.s) ≤ 4 * v * (c.a + c.h + c.s)
  rw [Int.mul_add, Int.mul_add]
  omega
theorem rest_ok {c : Vec} (h : Base o x u v) (hc : c.Pos) (hb : 8 * v * c.sum < x) : 0 ≤ c.num o x u v - c.sum * lowN o x u v ∧ c.num o x u v - c.sum * lowN o x u v < lowN o x u v := by
  have hs := num_step o x u v c
  obtain ⟨n1, n2⟩ := (Vec.num_bounds h (Vec.step_pos h hc))
  have h3 := Vec.step_sum h hc
  obtain ⟨l1, l2⟩ := h.low
  have hx := h.x1
  have e1 : x * (c.num o x u v - c.sum * lowN o x u v) = (c.step o u v).num o x u v := by grind
  have k1 : (c.step o u v).sum * (2 * lowN o x u v) = (2 * (c.step o u v).sum) * lowN o x u v := by grind
  have e4 : 8 * v * c.sum = 2 * (4 * v * c.sum) := by grind
  have k2 : (2 * (c.step o u v).sum) * lowN o x u v < x * lowN o x u v := Int.mul_lt_mul_of_pos_right (by omega) l2
  refine ⟨?_, ?_⟩
  · exact Int.le_of_mul_le_mul_left (a := x) (by rw [e1]; simpa using n1) (by omega)
  · exact Int.lt_of_mul_lt_mul_left (a := x) (by rw [e1]; omega) (by omega)
end
theorem St.vec_pos (st : St) : st.vec.Pos := by cases st <;> simp [St.vec, Vec.Pos]
theorem last_pos {o x u v : Int} (h : Base o x u v) : ∀ (m : Nat) (c : Vec), c.Pos → (lastOf o u v c m).Pos
  | 0, _, hc => hc
  | m + 1, _, hc => last_pos h m _ (Vec.step_pos h hc)
theorem last_sum (o u v : Int) : ∀ (m : Nat) (c : Vec), (rowsOf o u v c m).getLast? = some (lastOf o u v c m).sum
  | 0, _ => rfl
  | m + 1, c => by
    rw [rowsOf, lastOf, ← last_sum o u v m]
    have := rows_len o u v m (c.step o u v)
    cases hr : rowsOf o u v (c.step o u v) m with
    | nil => rw [hr] at this; cases this
    | cons a l => rfl
/-- how often each sum is told, by the state and by the number of other signs -/
def cnts : St → Nat → List (List Int)
  | .on, 1 => [[1], [1, 1], [1, 1, 1, 0, 0, 1], [2, 1, 1, 1, 0, 1, 2], [4, 2, 1, 1, 1, 1, 2, 3, 0, 0, 1]]
  | .half, 1 => [[1], [1, 0, 0, 0, 0, 1], [2, 0, 0, 0, 0, 1, 1], [4, 0, 0, 0, 0, 1, 1, 1, 0, 0, 1], [8, 0, 0, 0, 0, 2, 1, 1, 1, 0, 1, 2]]
  | .shut, 1 => [[1], [2], [4], [8], [16]]
  | .on, _ => [[1], [1, 2], [2, 2, 4, 0, 0, 1], [6, 4, 4, 8, 0, 1, 4]]
  | .half, _ => [[1], [2, 0, 0, 0, 0, 1], [6, 0, 0, 0, 0, 1, 2], [18, 0, 0, 0, 0, 2, 2, 4, 0, 0, 1]]
  | .shut, _ => [[1], [3], [9], [27]]
def mostOf (o : Nat) : Nat := if o = 1 then 4 else 3
theorem rows_cnts (st : St) (o n : Nat) (ho : o = 1 ∨ o = 2) : rowsOf (o : Int) (2 ^ n) (2 ^ (5 * n)) st.vec (mostOf o) = (cnts st o).map (val n) := by
  have e : (2 : Int) ^ (5 * n) = (2 ^ n) ^ 5 := by rw [Nat.mul_comm, Int.pow_mul]
  rw [e]
  rcases ho with rfl | rfl <;> cases st <;> simp only [mostOf, if_true, if_false, cnts, St.vec, rowsOf, Vec.step, Vec.sum, List.map, val, List.cons.injEq, and_true, show ¬ (2 : Nat) = 1 from by decide] <;> generalize (2 : Int) ^ n = y <;> ((repeat' apply And.intro) <;> grind)
end Mine

end
section
namespace Mine
abbrev CntOk (row : List Int) : Prop := row ≠ [] ∧ 0 < row.getLastD 0 ∧ row.length ≤ 12 ∧ ∀ d ∈ row, 0 ≤ d ∧ d < 32
theorem cnts_ok (st : St) {o : Nat} (ho : o = 1 ∨ o = 2) : ∀ row ∈ cnts st o, CntOk row := by
  rcases ho with rfl | rfl <;> cases st <;> decide
theorem cnts_len (st : St) {o : Nat} (ho : o = 1 ∨ o = 2) : (cnts st o).length = mostOf o + 1 := by
  rcases ho with rfl | rfl <;> cases st <;> rfl
theorem cnts_head (st : St) {o : Nat} (ho : o = 1 ∨ o = 2) : ∃ t, cnts st o = [1] :: t := by
  rcases ho with rfl | rfl <;> cases st <;> exact ⟨_, rfl⟩
theorem CntOk.split {row : List Int} (h : CntOk row) : ∃ ds d, row = ds ++ [d] ∧ 0 < d := by
  obtain ⟨h1, h2, _, _⟩ := h
  refine ⟨row.dropLast, row.getLast h1, (List.dropLast_concat_getLast h1).symm, ?_⟩
  rw [List.getLastD_eq_getLast?, List.getLast?_eq_some_getLast h1] at h2
  exact h2
theorem CntOk.small {row : List Int} {n : Nat} (h : CntOk row) (hn : 5 ≤ n) : Small n row := fun d hd => by
  have h1 := h.2.2.2 d hd
  have h2 : (2 : Int) ^ 5 ≤ 2 ^ n := pow_le hn
  exact ⟨h1.1, Int.lt_of_lt_of_le h1.2 h2⟩
theorem CntOk.digits {row : List Int} {n : Nat} (h : CntOk row) (hn : 5 ≤ n) : digitsOf (n : Int) (val n row) = row := by
  obtain ⟨ds, d, rfl, hd⟩ := h.split
  exact digitsOf_val (by omega) (h.small hn) hd
theorem CntOk.bounds {row : List Int} {n : Nat} (h : CntOk row) (hn : 5 ≤ n) : 0 ≤ val n row ∧ val n row < 2 ^ (12 * n) := by
  have h1 := val_bounds n row (h.small hn)
  refine ⟨h1.1, Int.lt_of_lt_of_le h1.2 (pow_le ?_)⟩
  rw [Nat.mul_comm]
  exact Nat.mul_le_mul_right n h.2.2.1
theorem base_ok {o n W : Nat} (ho : o = 1 ∨ o = 2) (hn : 5 ≤ n) (hW : 20 * n ≤ W) : Base (o : Int) (2 ^ W) (2 ^ n) (2 ^ (5 * n)) := by
  have h1 : (2 : Int) ^ n ≤ 2 ^ (5 * n) := pow_le (by omega)
  have h2 : (2 : Int) ^ (5 * n + 3) ≤ 2 ^ W := pow_le (by omega)
  have h3 : (2 : Int) ^ 7 ≤ 2 ^ W := pow_le (by omega)
  have h4 := pow_pos' n
  rw [Int.pow_add] at h2
  exact ⟨by omega, by omega, by omega, h1, by omega, by omega⟩
theorem row_of {st : St} {o n : Nat} {r : Int} (hr : r ∈ (cnts st o).map (val n)) : ∃ row ∈ cnts st o, r = val n row := by
  obtain ⟨row, h1, h2⟩ := List.mem_map.mp hr
  exact ⟨row, h1, h2.symm⟩
/-- the one quotient, and its digits -/
theorem quo_is {st : St} {o n W : Nat} {q rr : Int} (ho : o = 1 ∨ o = 2) (hn : 5 ≤ n) (hW : 20 * n ≤ W)
    (e1 : q * lowN (o : Int) (2 ^ W) (2 ^ n) (2 ^ (5 * n)) + rr = upN (o : Int) (2 ^ W) (2 ^ n) (2 ^ (5 * n)) st * (2 ^ W) ^ mostOf o) (e2 : 0 ≤ rr) (e3 : rr < lowN (o : Int) (2 ^ W) (2 ^ n) (2 ^ (5 * n))) :
    q = val W ((cnts st o).map (val n)).reverse := by
  have hB := base_ok ho hn hW
  have h1 := quo_eq (o : Int) (2 ^ n) (2 ^ (5 * n)) W (mostOf o) st.vec
  have hl := last_sum (o : Int) (2 ^ n) (2 ^ (5 * n)) (mostOf o) st.vec
  have hp := last_pos hB (mostOf o) st.vec st.vec_pos
  rw [rows_cnts st o n ho] at h1 hl
  rw [num_vec] at h1
  generalize hc : lastOf (o : Int) (2 ^ n) (2 ^ (5 * n)) st.vec (mostOf o) = c at *
  have hlt : c.sum < 2 ^ (12 * n) ∧ 0 ≤ c.sum := by
    obtain ⟨row, h3, h4⟩ := row_of (List.mem_of_getLast? hl)
    have h5 := (cnts_ok st ho row h3).bounds hn
    rw [h4]
    omega
  have hb : 8 * 2 ^ (5 * n) * c.sum < (2 : Int) ^ W := by
    have p := pow_pos' (5 * n)
    have a1 : 8 * 2 ^ (5 * n) * c.sum < 8 * 2 ^ (5 * n) * 2 ^ (12 * n) := Int.mul_lt_mul_of_pos_left hlt.1 (by omega)
    have a2 : (2 : Int) ^ (3 + 5 * n + 12 * n) ≤ 2 ^ W := pow_le (by omega)
    rw [Int.pow_add, Int.pow_add] at a2
    have a3 : (2 : Int) ^ 3 = 8 := by decide
    rw [a3] at a2
    exact Int.lt_of_lt_of_le a1 a2
  obtain ⟨r1, r2⟩ := rest_ok hB hp hb
  have d1 := divmod_unique hB.low.2 e1 e2 e3
  have d2 := divmod_unique hB.low.2 h1.symm r1 r2
  rw [← d1.1, ← d2.1]
theorem wide_digits {st : St} {o n W : Nat} (ho : o = 1 ∨ o = 2) (hn : 5 ≤ n) (hW : 20 * n ≤ W) :
    digitsOf (W : Int) (val W ((cnts st o).map (val n)).reverse) = ((cnts st o).map (val n)).reverse ∧ Small W ((cnts st o).map (val n)).reverse := by
  have hs : Small W ((cnts st o).map (val n)).reverse := fun d hd => by
    obtain ⟨row, h3, h4⟩ := row_of (List.mem_reverse.mp hd)
    have h5 := (cnts_ok st ho row h3).bounds hn
    have a2 : (2 : Int) ^ (12 * n) ≤ 2 ^ W := pow_le (by omega)
    rw [h4]; omega
  refine ⟨?_, hs⟩
  obtain ⟨t, ht⟩ := cnts_head st ho
  rw [ht, List.map_cons, List.reverse_cons] at hs ⊢
  exact digitsOf_val (by omega) hs (by rw [val_one]; decide)
end Mine

end
section
namespace Mine
theorem bits_one : Builtin.Int.intBits 1 ≤ 1 := by decide
theorem bits_pow {a : Int} {m : Nat} (h : Builtin.Int.intBits a ≤ m) : ∀ k : Nat, Builtin.Int.intBits (a ^ k) ≤ 1 + k * m
  | 0 => by rw [Int.pow_zero]; exact Nat.le_trans bits_one (by omega)
  | k + 1 => by
    have := bits_mul (bits_pow h k) h
    rw [Int.pow_succ, Nat.succ_mul]
    omega
section
variable {prog : Program} {w : World} {A : Around} {E : Value → Shared → Prop} {s : Shared} {t u : Tok} {Q : Value → Shared → Prop}
theorem pow2_of {k : Int} {N : Nat} (hk : k = (N : Int)) (hN : N ≤ 5000) (h : ∀ X : Int, X = 2 ^ N → Builtin.Int.intBits X ≤ 5001 → Q (.int X s.toks) { s with toks := s.toks + 1 }) :
    wpAny (model prog w) A (binaryOp .Pow (.int 2 t) (.int k u)) Q E s := by
  subst hk
  refine pow_int_small (by omega) (by omega) (by decide) ?_
  rw [Int.toNat_natCast]
  exact h _ rfl (bits_of_lt' (k := N + 1) (Int.le_of_lt (pow_pos' _)) (by rw [Int.pow_succ]; have := pow_pos' N; omega) (by omega))
theorem powm_of {a k : Int} {N : Nat} (hk : k = (N : Int)) (hN : N ≤ 4) (ha : Builtin.Int.intBits a ≤ 5001) (h : ∀ Y : Int, Y = a ^ N → Builtin.Int.intBits Y ≤ 20005 → Q (.int Y s.toks) { s with toks := s.toks + 1 }) :
    wpAny (model prog w) A (binaryOp .Pow (.int a t) (.int k u)) Q E s := by
  subst hk
  refine pow_int (by omega) ?_ ?_
  · have h1 : (Builtin.Int.intBits a : Int) * (N : Int) ≤ 5001 * 4 := Int.mul_le_mul (by omega) (by omega) (by omega) (by omega)
    omega
  · rw [Int.toNat_natCast]
    refine h _ rfl (Nat.le_trans (bits_pow ha N) ?_)
    have : N * 5001 ≤ 4 * 5001 := Nat.mul_le_mul_right _ hN
    omega
end
/-- a list's items are lists of ints, which stand in a ledger -/
inductive RowsAt : List Value → List (List Int) → Led → Prop where
  | nil : RowsAt [] [] []
  | cons {a : Addr} {vs : List Value} {row : List Int} {vr : List Value} {rows : List (List Int)} {led : Led} : IntsAre vs row → RowsAt vr rows led → RowsAt (.ref a :: vr) (row :: rows) ((a, listOf vs.toArray 0) :: led)
theorem RowsAt.snoc {vr : List Value} {rows : List (List Int)} {led : Led} (h : RowsAt vr rows led) (a : Addr) {vs : List Value} {row : List Int} (hr : IntsAre vs row) : RowsAt (vr ++ [.ref a]) (rows ++ [row]) (led ++ [(a, listOf vs.toArray 0)]) := by
  induction h with
  | nil => exact .cons hr .nil
  | cons h1 _ ih => exact .cons h1 ih
theorem RowsAt.len {vr : List Value} {rows : List (List Int)} {led : Led} (h : RowsAt vr rows led) : vr.length = rows.length := by
  induction h with
  | nil => rfl
  | cons _ _ ih => rw [List.length_cons, List.length_cons, ih]
theorem RowsAt.at {vr : List Value} {rows : List (List Int)} {led : Led} (h : RowsAt vr rows led) : ∀ {i : Nat} {v : Value}, vr[i]? = some v → ∃ a vs row, v = .ref a ∧ rows[i]? = some row ∧ IntsAre vs row ∧ (a, listOf vs.toArray 0) ∈ led := by
  induction h with
  | nil => intro i v hv; simp at hv
  | @cons a vs row vr rows led h1 _ ih =>
    intro i v hv
    cases i with
    | zero =>
      simp only [List.getElem?_cons_zero, Option.some.injEq] at hv
      exact ⟨a, vs, row, hv.symm, rfl, h1, .head _⟩
    | succ i =>
      rw [List.getElem?_cons_succ] at hv
      obtain ⟨a', vs', row', e, h1, h2, h3⟩ := ih hv
      exact ⟨a', vs', row', e, by rw [List.getElem?_cons_succ]; exact h1, h2, .tail _ h3⟩
/-- the sizes that the division wants -/
theorem low_bits {o n W : Nat} (ho : o = 1 ∨ o = 2) (hn : 5 ≤ n) (hW : 20 * n ≤ W) (hW2 : W ≤ 2641) : Builtin.Int.intBits (lowN (o : Int) (2 ^ W) (2 ^ n) (2 ^ (5 * n))) ≤ 8500 ∧ 100 ≤ Builtin.Int.intBits (lowN (o : Int) (2 ^ W) (2 ^ n) (2 ^ (5 * n))) := by
  have hB := base_ok ho hn hW
  obtain ⟨t1, t2⟩ := hB.tok
  obtain ⟨l1, l2⟩ := hB.low
  have hx := hB.x1
  have o1 := hB.o1
  have e3 : (2 : Int) ^ W * (2 ^ W * 2 ^ W) = 2 ^ (W + (W + W)) := by rw [Int.pow_add, Int.pow_add]
  have pw := pow_pos' W
  have p2 : (0 : Int) < 2 ^ W * 2 ^ W := Int.mul_pos pw pw
  have a1 : lowN (o : Int) (2 ^ W) (2 ^ n) (2 ^ (5 * n)) < 2 ^ (W + (W + W)) := by
    rw [← e3]
    unfold lowN
    have b1 : (2 ^ W - (o : Int) - 1) * tokN (o : Int) (2 ^ W) (2 ^ n) (2 ^ (5 * n)) ≤ (2 ^ W - (o : Int) - 1) * (2 ^ W * 2 ^ W) := Int.mul_le_mul_of_nonneg_left t2 (by have := hB.o2; omega)
    have b2 : (2 ^ W - (o : Int) - 1) * (2 ^ W * 2 ^ W) < 2 ^ W * (2 ^ W * 2 ^ W) := Int.mul_lt_mul_of_pos_right (by omega) p2
    omega
  refine ⟨bits_of_lt' (Int.le_of_lt l2) a1 (by omega), ?_⟩
  rcases Nat.lt_or_ge (Builtin.Int.intBits (lowN (o : Int) (2 ^ W) (2 ^ n) (2 ^ (5 * n)))) 100 with h | h
  · have c1 := bits_lt (Int.le_of_lt l2)
    have c2 : (2 : Int) ^ (Builtin.Int.intBits (lowN (o : Int) (2 ^ W) (2 ^ n) (2 ^ (5 * n)))) ≤ 2 ^ W := pow_le (by omega)
    have c3 : 100 * 2 ^ W ≤ (2 : Int) ^ W * 2 ^ W := Int.mul_le_mul_of_nonneg_right hx (Int.le_of_lt pw)
    have c4 : (2 ^ W - 3) * 2 ≤ (2 ^ W - 3) * tokN (o : Int) (2 ^ W) (2 ^ n) (2 ^ (5 * n)) := Int.mul_le_mul_of_nonneg_left (by omega) (by omega)
    omega
  · exact h
end Mine

end
section
namespace Mine
theorem bits_ok1 {a : Int} {k : Nat} (h : Builtin.Int.intBits a ≤ k) {m : Nat} (hm : k ≤ m) : Builtin.Int.intBits a ≤ m := Nat.le_trans h hm
theorem small_nat {o : Nat} (h : o ≤ 3) : Builtin.Int.intBits (o : Int) ≤ 2 := bits_of_lt (by omega) (by have : (2 : Int) ^ 2 = 4 := rfl; omega)
theorem up_bits {o x u v : Int} (ho : Builtin.Int.intBits o ≤ 2) (hx : Builtin.Int.intBits x ≤ 5001) (hu : Builtin.Int.intBits u ≤ 5001) (hv : Builtin.Int.intBits v ≤ 5001) (st : St) : Builtin.Int.intBits (upN o x u v st) ≤ 40000 := by
  have h1 := bits_one
  have hox : Builtin.Int.intBits (o * x) ≤ 5003 := bits_ok1 (bits_mul ho hx) (by decide)
  have houx : Builtin.Int.intBits (o * u * x) ≤ 10004 := bits_ok1 (bits_mul (bits_mul ho hu) hx) (by decide)
  have hxx : Builtin.Int.intBits (x * x) ≤ 10002 := bits_ok1 (bits_mul hx hx) (by decide)
  have ht : Builtin.Int.intBits (tokN o x u v) ≤ 10010 := bits_ok1 (bits_sub (bits_sub hxx houx) hv) (by decide)
  have he : Builtin.Int.intBits (endN o x) ≤ 10010 := bits_ok1 (bits_sub (bits_sub hxx hox) h1) (by decide)
  cases st with
  | on => exact bits_ok1 (bits_mul hx he) (by decide)
  | half => exact bits_ok1 (bits_add (bits_mul (bits_sub hx h1) ht) (bits_mul hv he)) (by decide)
  | shut => exact bits_ok1 (bits_mul hx ht) (by decide)
theorem up_facts (st : St) {o n : Nat} {x u v Y : Int} (ho : o = 1 ∨ o = 2) (hn : 5 ≤ n) (hn2 : n ≤ 132) (hx : x = 2 ^ (20 * n + n % 2)) (hu : u = 2 ^ n) (hv : v = 2 ^ (5 * n)) (hY : Y = x ^ mostOf o)
    (bx : Builtin.Int.intBits x ≤ 5001) (bu : Builtin.Int.intBits u ≤ 5001) (bv : Builtin.Int.intBits v ≤ 5001) (bY : Builtin.Int.intBits Y ≤ 20005) :
    0 ≤ upN o x u v st * Y ∧ 0 < lowN o x u v ∧ Builtin.Int.intBits (upN o x u v st * Y) ≤ 100000 ∧ Builtin.Int.intBits (lowN o x u v) ≤ 8500 ∧ (Builtin.Int.intBits (upN o x u v st * Y) : Int) ≤ 1000 * (Builtin.Int.intBits (lowN o x u v) : Int) ∧
    ∀ q rr, q * lowN o x u v + rr = upN o x u v st * Y → 0 ≤ rr → rr < lowN o x u v → q = val (20 * n + n % 2) ((cnts st o).map (val n)).reverse := by
  have hW : 20 * n ≤ 20 * n + n % 2 := by omega
  have hlb := low_bits (W := 20 * n + n % 2) ho hn hW (by omega)
  have hB := base_ok (W := 20 * n + n % 2) ho hn hW
  rw [← hx, ← hu, ← hv] at hlb hB
  have b0 : Builtin.Int.intBits (upN o x u v st * Y) ≤ 100000 := bits_ok1 (bits_mul (up_bits (small_nat (by omega)) bx bu bv st) bY) (by decide)
  have hY0 : 0 ≤ Y := by
    rw [hY, hx, ← Int.pow_mul]; exact Int.le_of_lt (pow_pos' _)
  refine ⟨Int.mul_nonneg (hB.up st).1 hY0, hB.low.2, b0, hlb.1, by omega, fun q rr e1 e2 e3 => ?_⟩
  rw [hx, hu, hv] at e3
  rw [hY, hx, hu, hv] at e1
  exact quo_is ho hn hW e1 e2 e3
theorem quo_facts {st : St} {o n : Nat} {q : Int} (ho : o = 1 ∨ o = 2) (hn : 5 ≤ n) (hn2 : n ≤ 132) (hq : q = val (20 * n + n % 2) ((cnts st o).map (val n)).reverse) :
    0 ≤ q ∧ Builtin.Int.intBits q ≤ 20000 ∧ (Builtin.Int.intBits q : Int) ≤ 1000 * ((20 * n + n % 2 : Nat) : Int) ∧ digitsOf ((20 * n + n % 2 : Nat) : Int) q = ((cnts st o).map (val n)).reverse := by
  obtain ⟨h1, h2⟩ := wide_digits (st := st) (o := o) (n := n) (W := 20 * n + n % 2) ho hn (by omega)
  obtain ⟨h3, h4⟩ := val_bounds _ _ h2
  have hl : ((cnts st o).map (val n)).reverse.length ≤ 5 := by
    rw [List.length_reverse, List.length_map, cnts_len st ho]; unfold mostOf; split <;> omega
  have h5 : Builtin.Int.intBits q ≤ (20 * n + n % 2) * 5 := by
    rw [hq]; exact bits_of_lt' h3 h4 (Nat.mul_le_mul_left _ hl)
  rw [hq] at h5 ⊢
  exact ⟨h3, by omega, by omega, h1⟩
theorem row_facts {st : St} {o n : Nat} {i : Nat} {r : Int} (ho : o = 1 ∨ o = 2) (hn : 5 ≤ n) (hr : ((cnts st o).map (val n))[i]? = some r) :
    ∃ row, (cnts st o)[i]? = some row ∧ 0 ≤ r ∧ Builtin.Int.intBits r ≤ 12 * n ∧ digitsOf (n : Int) r = row := by
  rw [List.getElem?_map] at hr
  cases h : (cnts st o)[i]? with
  | none => rw [h] at hr; cases hr
  | some row =>
    rw [h] at hr
    have h1 := cnts_ok st ho row (List.mem_of_getElem? h)
    obtain ⟨h2, h3⟩ := h1.bounds hn
    have e : val n row = r := by simpa using hr
    rw [← e]
    exact ⟨row, rfl, h2, bits_of_lt h2 h3, h1.digits hn⟩
end Mine

end
section
namespace Mine
open LCg
abbrev two (elt : Expr) (x : Str) (px : Pos) (it1 : Expr) (y : Str) (py : Pos) (it2 : Expr) (scope : Scope) (pos : Pos) : Expr := .ListComp elt [⟨.Name x px, it1, [], 0⟩, ⟨.Name y py, it2, [], 0⟩] scope pos
section
variable {elt it1 it2 : Expr} {x y : Str} {px py pos : Pos} {scope : Scope}
theorem compTurn_two0 (it acc : Value) (env : Env) : compTurn (two elt x px it1 y py it2 scope pos) 0 it acc env = (standAt it1.pos >>= fun _ => pyNext it >>= fun r => match r with
      | none => pure (.done .next)
      | some v => letOwnedTupleGo (.Name x px) it v >>= fun _ => assign (.Name x px) env v >>= fun _ =>
        eval it2 env >>= fun xx => standAt it2.pos >>= fun _ => foldedSetIterable it2 env xx >>= fun xx => holding [xx] (pyIter xx) >>= fun jt => runOwn (.compStart (two elt x px it1 y py it2 scope pos) 1 jt acc env) env >>= fun _ =>
          again (.compLoop (two elt x px it1 y py it2 scope pos) 0 it acc env)) := by rfl
theorem compTurn_two1 (it acc : Value) (env : Env) : compTurn (two elt x px it1 y py it2 scope pos) 1 it acc env = (standAt it2.pos >>= fun _ => pyNext it >>= fun r => match r with
      | none => pure (.done .next)
      | some v => letOwnedTupleGo (.Name y py) it v >>= fun _ => assign (.Name y py) env v >>= fun _ =>
        (eval elt env >>= fun x => call (.builtin "list.append") [acc, x] >>= fun _ => pure ()) >>= fun _ =>
          again (.compLoop (two elt x px it1 y py it2 scope pos) 1 it acc env)) := by rfl
variable {prog : Program} {w : World} {A : Around} {E : Value → Shared → Prop} {R : Result → Shared → Prop} {s : Shared}
theorem codeAny_compStart_two1 {it acc env}
    (h0 : codeAny (model prog w) A (.compLoop (two elt x px it1 y py it2 scope pos) 1 it acc env) R s)
    (h : wpAny (model prog w) A (pyIter it) (fun it' s' => codeAny (model prog w) A (.compLoop (two elt x px it1 y py it2 scope pos) 1 it' acc env) R s')
      (notedBy (model prog w) A env fun x s' => R (.error x) s') s) :
    codeAny (model prog w) A (.compStart (two elt x px it1 y py it2 scope pos) 1 it acc env) R s := by
  refine codeAny_of_tree ?_
  show wpAny _ _ ((compStart (two elt x px it1 y py it2 scope pos) 1 it acc env).onRaise (fun x => do noteFrame x env; standAt theWindowsPlace)) _ _ s
  refine wpAny_notedAt ?_
  unfold compStart
  show wpAny _ _ (ask >>= _) _ _ s
  refine wpAny_bind (wpAny_askSetting (wpAny_ite ?_))
  split
  · first
      | exact wpAny_bind (wpAny_pure (wpAny_pure (And.intro rfl h0)))
      | exact wpAny_pure (And.intro rfl h0)
  · first
      | exact wpAny_bind (wpAny_rule (wpAny_bind (wpAny_standAt (wpAny_bind (wpAny_mono h (fun it' s' h' => wpAny_pure (And.intro rfl h')) fun _ _ x => x)))))
      | (refine wpAny_bind (wpAny_rule ?_); show wpAny _ _ (standAt it2.pos >>= _) _ _ s; exact wpAny_bind (wpAny_standAt (wpAny_bind (wpAny_mono h (fun it' s' h' => wpAny_pure (And.intro rfl h')) fun _ _ x => x))))
end
end Mine

end
section
namespace Mine
open LCg
section
variable {elt it1 it2 : Expr} {x y : Str} {px py pos : Pos} {scope : Scope}
variable {prog : Program} {w : World} {A : Around} {E : Value → Shared → Prop} {h₀ : Heap} {L C D I ax ls : Addr} {m : Str → Option Value} {news : Led} {cenv : Env} {its1 its2 : List Value} {F : Value → Value → Value → Prop}
/-- what stays apart -/
structure Apart (h₀ : Heap) (L C D I : Addr) (news : Led) : Prop where
  CL : C ≠ L
  DL : D ≠ L
  IL : I ≠ L
  CD : C ≠ D
  IC : I ≠ C
  ID : I ≠ D
  C0 : h₀.get? C = none
  D0 : h₀.get? D = none
  I0 : h₀.get? I = none
  off : ∀ p ∈ news, p.1 ≠ I ∧ p.1 ≠ C ∧ p.1 ≠ D
theorem news_same {h₀ h h' : Heap} {L X : Addr} {news : Led} (N : News h₀ L h news) (hs : Heap.SameBut X h h') (off : ∀ p ∈ news, p.1 ≠ X) : News h₀ L h' news :=
  fun p hp => ⟨hs.extBut _ _ (off p hp) (N p hp).1, (N p hp).2⟩
theorem inner_two {R : Result → Shared → Prop} {s : Shared} {J : Addr} {v₁ : Value} {ys₀ : List Value} {oI : Obj} {m' : Str → Option Value} (hh : A.handled = none) (hC : cenv.locals = C) (hky : cenv.kindOf y = some .local) (hxy : x ≠ y)
    (hcl : (cenv.scope.kind == .class || (cenv.scope.kind == .module && cenv.locals != cenv.globals)) = false) (P : Apart h₀ L C D I news) (hls : ∃ e, (ls, listOf its2.toArray e) ∈ news)
    (hJ : J ≠ I ∧ J ≠ C ∧ J ≠ D ∧ J ≠ L) (hJ0 : h₀.get? J = none) (hJn : ∀ p ∈ news, p.1 ≠ J) (hsz : ys₀.length + its2.length ≤ sizeLine)
    (helt : ∀ (v₂ : Value) (s' : Shared) (m₂ : Str → Option Value) (E' : Value → Shared → Prop), v₂ ∈ its2 → Fr h₀ L s'.heap m → s'.heap.Ns C m₂ → m₂ x = some v₁ → m₂ y = some v₂ → News h₀ L s'.heap news →
      wpAny (model prog w) A (eval elt cenv) (fun r s₂ => F v₁ v₂ r ∧ ∃ tk, s₂ = { s' with toks := tk }) E' s')
    (hF : Fr h₀ L s.heap m) (hN : News h₀ L s.heap ((I, oI) :: (D, lst ys₀) :: news)) (hn : s.heap.Ns C m') (hx : m' x = some v₁) (hit : s.heap.IsListIter J ls 0)
    (hR : ∀ h' tk m'' ys, Fr h₀ L h' m → News h₀ L h' ((I, oI) :: (D, lst (ys₀ ++ ys)) :: news) → h'.Ns C m'' → Paired (F v₁) its2 ys → R (.ok .next) { s with heap := h', toks := tk }) :
    codeAny (model prog w) A (.compLoop (two elt x px it1 y py it2 scope pos) 1 (.ref J) (.ref D) cenv) R s := by
  subst hC
  obtain ⟨e, hls⟩ := hls
  refine codeAny_loop rfl
    (fun k s' => ∃ h' tk j ys m'', s' = { s with heap := h', toks := tk } ∧ j ≤ its2.length ∧ k = its2.length + 1 - j ∧ ys.length = j ∧ h'.IsListIter J ls j ∧ Fr h₀ L h' m ∧ h'.Ns cenv.locals m'' ∧ m'' x = some v₁ ∧ News h₀ L h' ((I, oI) :: (D, lst (ys₀ ++ ys)) :: news) ∧ Paired (F v₁) (its2.take j) ys) ?_ (its2.length + 1)
    ⟨s.heap, s.toks, 0, [], m', rfl, Nat.zero_le _, rfl, rfl, hit, hF, hn, hx, by rw [List.append_nil]; exact hN, .nil⟩
  rintro k s' ⟨h', tk, j, ys, m'', rfl, hj, rfl, hyl, hit', hF', hn', hx', hN', hP'⟩
  show wpAny _ A ((compTurn (two elt x px it1 y py it2 scope pos) 1 (.ref J) (.ref D) cenv).onRaise (fun x => do noteFrame x cenv; theTreesLotGoes x)) _ _ _
  refine wpAny_noted ?_
  rw [compTurn_two1]
  refine wpAny_bind (wpAny_standAt (wpAny_bind ?_))
  have hlist : h'.IsList ls its2.toArray := ⟨_, (hN' (ls, listOf its2.toArray e) (.tail _ (.tail _ hls))).1, rfl, e, rfl⟩
  by_cases hlt : j < its2.length
  · have hv : its2[j]? = some its2[j] := List.getElem?_eq_getElem hlt
    refine wpAny_pyNext_list_item hit' hlist (x := its2[j]) (by simp) fun h₁ hit₁ hs₁ => ?_
    refine wpAny_bind (wpAny_of_eq rfl ?_)
    have offJ : ∀ p ∈ (I, oI) :: (D, lst (ys₀ ++ ys)) :: news, p.1 ≠ J := List.forall_mem_cons.mpr ⟨Ne.symm hJ.1, List.forall_mem_cons.mpr ⟨Ne.symm hJ.2.2.1, hJn⟩⟩
    have N₁ := news_same hN' hs₁ offJ
    have F₁ := hF'.change hs₁ hJ.2.2.2 hJ0
    have n₁ := hn'.sameBut hs₁ (Ne.symm hJ.2.1)
    refine wpAny_bind (wpAny_assign_Name (wpAny_storeName_local hky n₁ (fun h₂ n₂ hs₂ => ?_) hcl))
    have offC : ∀ p ∈ (I, oI) :: (D, lst (ys₀ ++ ys)) :: news, p.1 ≠ cenv.locals := List.forall_mem_cons.mpr ⟨P.IC, List.forall_mem_cons.mpr ⟨Ne.symm P.CD, fun p hp => (P.off p hp).2.1⟩⟩
    have N₂ := news_same N₁ hs₂ offC
    have F₂ := F₁.change hs₂ P.CL P.C0
    have it₂ : h₂.IsListIter J ls (j + 1) := by
      obtain ⟨o, e1, e2⟩ := hit₁
      exact ⟨o, hs₂.extBut _ _ hJ.2.1 e1, e2⟩
    refine wpAny_bind (wpAny_bind (wpAny_mono (helt its2[j] _ _ _ (List.getElem_mem hlt) F₂ n₂ (by simp [hxy, hx']) (by simp) fun p hp => N₂ p (.tail _ (.tail _ hp))) (fun r s₃ h₃ => ?_) fun _ _ e => e))
    obtain ⟨hFr, tk₃, rfl⟩ := h₃
    have zD := (N₂ (D, lst (ys₀ ++ ys)) (.tail _ (.head _))).1
    refine wpAny_bind (append_at (hsz := by show (ys₀ ++ ys).toArray.size ≤ sizeLine; rw [List.size_toArray, List.length_append]; omega) zD fun h₄ hs₄ hD₄ => wpAny_pure (wpAny_pure ⟨rfl, its2.length + 1 - (j + 1), by omega, ?_⟩))
    refine ⟨h₄, tk₃, j + 1, ys ++ [r], _, rfl, hlt, rfl, by rw [List.length_append, List.length_singleton, hyl], ?_, F₂.change hs₄ P.DL P.D0, n₂.sameBut hs₄ P.CD, by simp [hxy, hx'], fun p hp => ?_, ?_⟩
    · obtain ⟨o, e1, e2⟩ := it₂
      exact ⟨o, hs₄.extBut _ _ hJ.2.2.1 e1, e2⟩
    · rcases List.mem_cons.mp hp with rfl | hp
      · exact ⟨hs₄.extBut _ _ P.ID (N₂ _ (.head _)).1, (N₂ _ (.head _)).2⟩
      · rcases List.mem_cons.mp hp with rfl | hp
        · have q := (N₂ _ (.tail _ (.head _))).2
          refine ⟨hD₄.trans (congrArg some ?_), q⟩
          rw [← List.append_assoc]
          exact lst_snoc (ys₀ ++ ys) r
        · exact ⟨hs₄.extBut _ _ (P.off p hp).2.2 (N₂ p (.tail _ (.tail _ hp))).1, (N₂ p (.tail _ (.tail _ hp))).2⟩
    · rw [List.take_add_one, hv]
      exact hP'.snoc hFr
  · have hjn : j = its2.length := by omega
    subst hjn
    refine wpAny_pyNext_list_end hh hit' hlist (by simp) fun h₁ he₁ => wpAny_pure ?_
    rw [List.take_length] at hP'
    refine hR h₁ tk m'' ys ⟨hF'.ns.at' fun o eo => he₁ _ o (Ne.symm hJ.2.2.2) eo, fun b o eo => he₁ b o (fun q => by rw [q, hJ0] at eo; cases eo) (hF'.keep b o eo), hF'.above⟩ (fun p hp => ?_) (hn'.at' fun o eo => he₁ _ o (Ne.symm hJ.2.1) eo) hP'
    have offJ : ∀ p ∈ (I, oI) :: (D, lst (ys₀ ++ ys)) :: news, p.1 ≠ J := List.forall_mem_cons.mpr ⟨Ne.symm hJ.1, List.forall_mem_cons.mpr ⟨Ne.symm hJ.2.2.1, hJn⟩⟩
    exact ⟨he₁ _ _ (offJ p hp) (hN' p hp).1, (hN' p hp).2⟩
end
end Mine

end
section
namespace Mine
open LCg
/-- what two fors make: for each of the first list's items one value for each of the second's -/
inductive Grid (F : Value → Value → Value → Prop) (its2 : List Value) : List Value → List Value → Prop where
  | nil : Grid F its2 [] []
  | snoc {l ys : List Value} {v : Value} {zs : List Value} : Grid F its2 l ys → Paired (F v) its2 zs → Grid F its2 (l ++ [v]) (ys ++ zs)
section
variable {elt it1 it2 : Expr} {x y : Str} {px py pos : Pos} {scope : Scope}
variable {prog : Program} {w : World} {A : Around} {E : Value → Shared → Prop} {h₀ : Heap} {L C D I ax ls : Addr} {m : Str → Option Value} {news : Led} {cenv : Env} {its1 its2 : List Value} {F : Value → Value → Value → Prop}
theorem outer_two {R : Result → Shared → Prop} {s : Shared} {m' : Str → Option Value} (hh : A.handled = none) (hC : cenv.locals = C) (hkx : cenv.kindOf x = some .local) (hky : cenv.kindOf y = some .local) (hxy : x ≠ y)
    (hcl : (cenv.scope.kind == .class || (cenv.scope.kind == .module && cenv.locals != cenv.globals)) = false) (P : Apart h₀ L C D I news) (hax : ∃ e, (ax, listOf its1.toArray e) ∈ news) (hls : ∃ e, (ls, listOf its2.toArray e) ∈ news)
    (hsz : its1.length * its2.length ≤ sizeLine)
    (helt : ∀ (v₁ v₂ : Value) (s' : Shared) (m₂ : Str → Option Value) (E' : Value → Shared → Prop), v₁ ∈ its1 → v₂ ∈ its2 → Fr h₀ L s'.heap m → s'.heap.Ns C m₂ → m₂ x = some v₁ → m₂ y = some v₂ → News h₀ L s'.heap news →
      wpAny (model prog w) A (eval elt cenv) (fun r s₂ => F v₁ v₂ r ∧ ∃ tk, s₂ = { s' with toks := tk }) E' s')
    (hit2 : ∀ (s' : Shared) (m₂ : Str → Option Value) (E' : Value → Shared → Prop), Fr h₀ L s'.heap m → s'.heap.Ns C m₂ → News h₀ L s'.heap news → wpAny (model prog w) A (eval it2 cenv) (fun r s₂ => r = .ref ls ∧ ∃ tk, s₂ = { s' with toks := tk }) E' s')
    (hfs : ∀ v, foldedSetIterable it2 cenv v = pure v)
    (hF : Fr h₀ L s.heap m) (hN : News h₀ L s.heap ((D, lst []) :: news)) (hn : s.heap.Ns C m') (hit : s.heap.IsListIter I ax 0)
    (hR : ∀ h' tk m'' ys, Fr h₀ L h' m → News h₀ L h' ((D, lst ys) :: news) → h'.Ns C m'' → Grid F its2 its1 ys → R (.ok .next) { s with heap := h', toks := tk }) :
    codeAny (model prog w) A (.compLoop (two elt x px it1 y py it2 scope pos) 0 (.ref I) (.ref D) cenv) R s := by
  subst hC
  obtain ⟨e, hax⟩ := hax
  refine codeAny_loop rfl
    (fun k s' => ∃ h' tk i ys m'', s' = { s with heap := h', toks := tk } ∧ i ≤ its1.length ∧ k = its1.length + 1 - i ∧ ys.length = i * its2.length ∧ h'.IsListIter I ax i ∧ Fr h₀ L h' m ∧ h'.Ns cenv.locals m'' ∧ News h₀ L h' ((D, lst ys) :: news) ∧ Grid F its2 (its1.take i) ys) ?_ (its1.length + 1)
    ⟨s.heap, s.toks, 0, [], m', rfl, Nat.zero_le _, rfl, by simp, hit, hF, hn, hN, .nil⟩
  rintro k s' ⟨h', tk, i, ys, m'', rfl, hi, rfl, hyl, hit', hF', hn', hN', hG'⟩
  show wpAny _ A ((compTurn (two elt x px it1 y py it2 scope pos) 0 (.ref I) (.ref D) cenv).onRaise (fun x => do noteFrame x cenv; theTreesLotGoes x)) _ _ _
  refine wpAny_noted ?_
  rw [compTurn_two0]
  refine wpAny_bind (wpAny_standAt (wpAny_bind ?_))
  have hlist : h'.IsList ax its1.toArray := ⟨_, (hN' (ax, listOf its1.toArray e) (.tail _ hax)).1, rfl, e, rfl⟩
  have offI : ∀ p ∈ (D, lst ys) :: news, p.1 ≠ I := List.forall_mem_cons.mpr ⟨Ne.symm P.ID, fun p hp => (P.off p hp).1⟩
  by_cases hlt : i < its1.length
  · have hv : its1[i]? = some its1[i] := List.getElem?_eq_getElem hlt
    refine wpAny_pyNext_list_item hit' hlist (x := its1[i]) (by simp) fun h₁ hit₁ hs₁ => ?_
    refine wpAny_bind (wpAny_of_eq rfl ?_)
    have N₁ := news_same hN' hs₁ offI
    have F₁ := hF'.change hs₁ P.IL P.I0
    have n₁ := hn'.sameBut hs₁ (Ne.symm P.IC)
    refine wpAny_bind (wpAny_assign_Name (wpAny_storeName_local hkx n₁ (fun h₂ n₂ hs₂ => ?_) hcl))
    have offC : ∀ p ∈ (D, lst ys) :: news, p.1 ≠ cenv.locals := List.forall_mem_cons.mpr ⟨Ne.symm P.CD, fun p hp => (P.off p hp).2.1⟩
    have N₂ := news_same N₁ hs₂ offC
    have F₂ := F₁.change hs₂ P.CL P.C0
    obtain ⟨oI, eI, dI⟩ := hit₁
    have eI₂ := hs₂.extBut _ _ P.IC eI
    have N₂' : News h₀ L h₂ ((I, oI) :: (D, lst ys) :: news) := fun p hp => by
      rcases List.mem_cons.mp hp with rfl | hp
      · exact ⟨eI₂, P.IL, P.I0⟩
      · exact N₂ p hp
    refine wpAny_bind (wpAny_mono (hit2 _ _ _ F₂ n₂ fun p hp => N₂ p (.tail _ hp)) (fun r s₃ h₃ => ?_) fun _ _ e => e)
    obtain ⟨rfl, tk₃, rfl⟩ := h₃
    refine wpAny_bind (wpAny_standAt (wpAny_bind (wpAny_of_eq (hfs _) ?_)))
    obtain ⟨e2, hls2⟩ := id hls
    have hlist2 : h₂.IsList ls its2.toArray := ⟨_, (N₂ (ls, listOf its2.toArray e2) (.tail _ hls2)).1, rfl, e2, rfl⟩
    refine wpAny_bind (wpAny_holding (wpAny_pyIter_list hlist2 ?_))
    dsimp only
    have up : ∀ b o, h₂.get? b = some o → (h₂.push { cls := .type "list_iterator", data := .fields #[.ref ls, .int 0 0] }).get? b = some o := fun b o eb => Heap.get?_push_of_some _ eb
    have hJit : (h₂.push { cls := .type "list_iterator", data := .fields #[.ref ls, .int 0 0] }).IsListIter h₂.objs.size ls 0 := ⟨_, Heap.get?_push_size _ rfl, rfl, rfl⟩
    have hJI : h₂.objs.size ≠ I := Ne.symm (Nat.ne_of_lt (Heap.lt_size eI₂))
    have hJC : h₂.objs.size ≠ cenv.locals := Ne.symm (Nat.ne_of_lt n₂.lt)
    have hJL : h₂.objs.size ≠ L := Ne.symm (Nat.ne_of_lt F₂.ns.lt)
    have hJD : h₂.objs.size ≠ D := Ne.symm (Nat.ne_of_lt (Heap.lt_size (N₂ (D, lst ys) (.head _)).1))
    have hJ0 : h₀.get? h₂.objs.size = none := next_is_new F₂
    have hJn : ∀ p ∈ news, p.1 ≠ h₂.objs.size := fun p hp => Nat.ne_of_lt (Heap.lt_size (N₂ p (.tail _ hp)).1)
    have hsz1 : ys.length + its2.length ≤ sizeLine := by
      rw [hyl, ← Nat.succ_mul]
      exact Nat.le_trans (Nat.mul_le_mul_right _ hlt) hsz
    have main : ∀ R' : Result → Shared → Prop, (∀ h' tk m'' zs, Fr h₀ L h' m → News h₀ L h' ((I, oI) :: (D, lst (ys ++ zs)) :: news) → h'.Ns cenv.locals m'' → Paired (F its1[i]) its2 zs → R' (.ok .next) { s with heap := h', toks := tk }) →
        codeAny (model prog w) A (.compLoop (two elt x px it1 y py it2 scope pos) 1 (.ref h₂.objs.size) (.ref D) cenv) R' { s with heap := h₂.push { cls := .type "list_iterator", data := .fields #[.ref ls, .int 0 0] }, toks := tk₃ } := fun R' hR' =>
      inner_two (oI := oI) (v₁ := its1[i]) hh rfl hky hxy hcl P hls ⟨hJI, hJC, hJD, hJL⟩ hJ0 hJn hsz1 (fun v₂ s' m₂ E' h2 a1 a2 a3 a4 a5 => helt _ _ s' m₂ E' (List.getElem_mem hlt) h2 a1 a2 a3 a4 a5) (F₂.keeps up) (N₂'.grown up) (n₂.at' fun o eo => up _ o eo) (by simp) hJit fun h' tk m'' zs a1 a2 a3 a4 => hR' h' tk m'' zs a1 a2 a3 a4
    refine wpAny_bind (wpAny_runOwn ?_)
    have fin : ∀ h' tk m'' zs, Fr h₀ L h' m → News h₀ L h' ((I, oI) :: (D, lst (ys ++ zs)) :: news) → h'.Ns cenv.locals m'' → Paired (F its1[i]) its2 zs →
        ∃ k', k' < its1.length + 1 - i ∧ ∃ h'' tk' i' ys' m''', ({ s with heap := h', toks := tk } : Shared) = { s with heap := h'', toks := tk' } ∧ i' ≤ its1.length ∧ k' = its1.length + 1 - i' ∧ ys'.length = i' * its2.length ∧ h''.IsListIter I ax i' ∧ Fr h₀ L h'' m ∧ h''.Ns cenv.locals m''' ∧ News h₀ L h'' ((D, lst ys') :: news) ∧ Grid F its2 (its1.take i') ys' := by
      intro h5 tk5 m5 zs F5 N5 n5 hz
      refine ⟨its1.length + 1 - (i + 1), by omega, h5, tk5, i + 1, ys ++ zs, m5, rfl, hlt, rfl, ?_, ⟨oI, (N5 _ (.head _)).1, dI⟩, F5, n5, fun p hp => N5 p (.tail _ hp), ?_⟩
      · rw [List.length_append, hyl, ← hz.length, Nat.succ_mul]
      · rw [List.take_add_one, hv]
        exact hG'.snoc hz
    refine codeAny_compStart_two1 (main _ fun h5 tk5 m5 zs F5 N5 n5 hz => wpAny_pure ⟨rfl, fin h5 tk5 m5 zs F5 N5 n5 hz⟩) (wpAny_pyIter_listiter hJit (main _ fun h5 tk5 m5 zs F5 N5 n5 hz => wpAny_pure ⟨rfl, fin h5 tk5 m5 zs F5 N5 n5 hz⟩))
  · have hin : i = its1.length := by omega
    subst hin
    refine wpAny_pyNext_list_end hh hit' hlist (by simp) fun h₁ he₁ => wpAny_pure ?_
    rw [List.take_length] at hG'
    refine hR h₁ tk m'' ys ⟨hF'.ns.at' fun o eo => he₁ _ o (Ne.symm P.IL) eo, fun b o eo => he₁ b o (fun q => by rw [q, P.I0] at eo; cases eo) (hF'.keep b o eo), hF'.above⟩ (fun p hp => ?_) (hn'.at' fun o eo => he₁ _ o (Ne.symm P.IC) eo) hG'
    exact ⟨he₁ _ _ (offI p hp) (hN' p hp).1, (hN' p hp).2⟩
end
end Mine

end
section
namespace Mine
open LCg
/-- behind the first source of a comprehension with two fors -/
def TwoNext (h₀ : Heap) (L : Addr) (m : Str → Option Value) (z : Str) (ax : Addr) (its1 its2 : List Value) (news : Led) (F : Value → Value → Value → Prop) (Q : Flow → Shared → Prop) (xv : Value) (s₁ : Shared) : Prop :=
  xv = .ref ax ∧ Fr h₀ L s₁.heap m ∧ News h₀ L s₁.heap news ∧ ∀ D h tk ys, Grid F its2 its1 ys → Fr h₀ L h (fun q => if q = z then some (.ref D) else m q) → News h₀ L h ((D, lst ys) :: news) → (∀ p ∈ news, p.1 ≠ D) → Q .next { s₁ with heap := h, toks := tk }
section
variable {elt it1 it2 : Expr} {x y z : Str} {px py pz pos spos : Pos} {scope : Scope} {cl : List (Str × Addr)}
variable {prog : Program} {w : World} {A : Around} {E : Value → Shared → Prop} {s : Shared} {h₀ : Heap} {L ax ls : Addr} {m : Str → Option Value} {news : Led} {env : Env} {its1 its2 : List Value} {F : Value → Value → Value → Prop} {Q : Flow → Shared → Prop}
theorem Assign_two (_F₀ : Fr h₀ L s.heap m) (hLe : env.locals = L) (hh : A.handled = none)
    (hsw : swapsWith (two elt x px it1 y py it2 scope pos) (some (.Name z pz)) spos.line env = pure true)
    (hclos : closureFor scope env = pure cl) (hcell : ∀ z ∈ scope.names, z.2 ≠ .cell) (hkind : scope.kind = .function)
    (hnames : ∀ z ∈ scope.names, z.2 = .local → scope.names.lookup z.1 = some .local) (hx : scope.names.lookup x = some .local) (hy : scope.names.lookup y = some .local) (hxy : x ≠ y)
    (hz : env.kindOf z = some .local) (hp : (env.scope.kind == .class || (env.scope.kind == .module && env.locals != env.globals)) = false)
    (hax : ∃ e, (ax, listOf its1.toArray e) ∈ news) (hls : ∃ e, (ls, listOf its2.toArray e) ∈ news) (hsz : its1.length * its2.length ≤ sizeLine)
    (helt : ∀ (C : Addr) (v₁ v₂ : Value) (s' : Shared) (m₂ : Str → Option Value) (E' : Value → Shared → Prop), v₁ ∈ its1 → v₂ ∈ its2 → Fr h₀ L s'.heap m → s'.heap.Ns C m₂ → m₂ x = some v₁ → m₂ y = some v₂ → News h₀ L s'.heap news →
      wpAny (model prog w) A (eval elt (compEnvC scope cl C env)) (fun r s₂ => F v₁ v₂ r ∧ ∃ tk, s₂ = { s' with toks := tk }) E' s')
    (hit2 : ∀ (C : Addr) (s' : Shared) (m₂ : Str → Option Value) (E' : Value → Shared → Prop), Fr h₀ L s'.heap m → s'.heap.Ns C m₂ → News h₀ L s'.heap news → wpAny (model prog w) A (eval it2 (compEnvC scope cl C env)) (fun r s₂ => r = .ref ls ∧ ∃ tk, s₂ = { s' with toks := tk }) E' s')
    (hfs : ∀ C v, foldedSetIterable it2 (compEnvC scope cl C env) v = pure v)
    (h : wpAny (model prog w) A (eval it1 env) (TwoNext h₀ L m z ax its1 its2 news F Q) E s)
    (hs : ∀ x, foldedSetIterable it1 env x = pure x := by intro _; rfl) :
    wpAny (model prog w) A (exec (.Assign [.Name z pz] (two elt x px it1 y py it2 scope pos) spos) env) Q E s := by
  subst hLe
  rw [exec_Assign_Name_used _ _ _ _ hsw]
  refine wpAny_bind (wpAny_standAt (wpAny_bind ?_))
  show wpAny _ A (do let _ ← comprehension (two elt x px it1 y py it2 scope pos) scope env _ (newList []) false (eval it1 env) (some (assign (.Name z pz) env))) _ _ s
  refine wpAny_bind (wpAny_mono (wpAny_comprehension_free (use := some (assign (.Name z pz) env)) (Q := fun _ s' => Q .next s') rfl hs hclos hkind hnames
    (wpAny_mono h (fun xv s₁ h₁ => ?_) fun _ _ e => e)) (fun _ s' hq => wpAny_pure (wpAny_pure hq)) fun _ _ e => e)
  obtain ⟨rfl, F₁, N₁, fin⟩ := h₁
  obtain ⟨e1, hax1⟩ := id hax
  have hl : s₁.heap.IsList ax its1.toArray := ⟨_, (N₁ _ hax1).1, rfl, e1, rfl⟩
  refine wpAny_pyIter_list hl ?_
  try dsimp only
  have up : ∀ b o, s₁.heap.get? b = some o → (s₁.heap.push { cls := .type "list_iterator", data := .fields #[.ref ax, .int 0 0] }).get? b = some o := fun b o e => Heap.get?_push_of_some _ e
  have hit0 : (s₁.heap.push { cls := .type "list_iterator", data := .fields #[.ref ax, .int 0 0] }).IsListIter s₁.heap.objs.size ax 0 := ⟨_, Heap.get?_push_size _ rfl, rfl, rfl⟩
  have F₂ := F₁.keeps up
  have N₂ := N₁.grown up
  have hIL : s₁.heap.objs.size ≠ env.locals := Ne.symm (Nat.ne_of_lt F₁.ns.lt)
  have hI0 : h₀.get? s₁.heap.objs.size = none := next_is_new F₁
  have hIn : ∀ p ∈ news, p.1 ≠ s₁.heap.objs.size := fun p hp => Nat.ne_of_lt (Heap.lt_size (N₁ p hp).1)
  generalize s₁.heap.objs.size = I at *
  generalize hH1 : s₁.heap.push { cls := .type "list_iterator", data := .fields #[.ref ax, .int 0 0] } = H1 at *
  refine wpAny_newObj_type (wpAny_newFunctionEnv hcell (by intro y hy; simp at hy) (fun h₁ hns₁ hsb₁ => ?_) hkind)
  dsimp only at hns₁ hsb₁ ⊢
  generalize hH2 : H1.push { cls := .type "list", dict := none, data := .seq ([] : List Value).toArray } = H2 at hns₁ hsb₁ ⊢
  have hC : H2.objs.size = H1.objs.size + 1 := by rw [← hH2, Heap.size_push]
  have hDC : H1.objs.size ≠ H2.objs.size := by rw [hC]; exact Nat.ne_of_lt (Nat.lt_succ_self _)
  have below : ∀ b, b < H1.objs.size → b ≠ H2.objs.size ∧ b ≠ H1.objs.size := fun b hb => ⟨by rw [hC]; exact Nat.ne_of_lt (Nat.lt_succ_of_lt hb), Nat.ne_of_lt hb⟩
  have hIlt : I < H1.objs.size := by obtain ⟨_, e, _⟩ := hit0; exact Heap.lt_size e
  have old : ∀ b o, H1.get? b = some o → h₁.get? b = some o := fun b o e => hsb₁.extBut b o (below b (Heap.lt_size e)).1 (Heap.get?_push_of_some _ (hH2 ▸ Heap.get?_push_of_some _ e))
  have hacc : h₁.get? H1.objs.size = some (lst []) := hsb₁.extBut _ _ hDC (Heap.get?_push_of_some _ (hH2 ▸ Heap.get?_push_size _ rfl))
  have fresh₀ : ∀ a, H1.objs.size ≤ a → h₀.get? a = none := fun a ha => by
    cases e : h₀.get? a with
    | none => rfl
    | some o' => exact absurd (Heap.lt_size (F₂.keep a o' e)) (Nat.not_lt.mpr ha)
  have hD₀ : h₀.get? H1.objs.size = none := fresh₀ _ (Nat.le_refl _)
  have hC₀ : h₀.get? H2.objs.size = none := fresh₀ _ (by rw [hC]; exact Nat.le_succ _)
  have hLlt : env.locals < H1.objs.size := F₂.ns.lt
  have hDL : H1.objs.size ≠ env.locals := Ne.symm (below _ hLlt).2
  have hCL : H2.objs.size ≠ env.locals := Ne.symm (below _ hLlt).1
  have P : Apart h₀ env.locals H2.objs.size H1.objs.size I news := ⟨hCL, hDL, hIL, Ne.symm hDC, (below I hIlt).1, (below I hIlt).2, hC₀, hD₀, hI0, fun p hp => ⟨hIn p hp, (below _ (Heap.lt_size (N₂ p hp).1)).1, (below _ (Heap.lt_size (N₂ p hp).1)).2⟩⟩
  have N₃ : News h₀ env.locals h₁ ((H1.objs.size, lst []) :: news) := fun p hp => by
    rcases List.mem_cons.mp hp with rfl | hp
    · exact ⟨hacc, hDL, hD₀⟩
    · exact ⟨old _ _ (N₂ p hp).1, (N₂ p hp).2⟩
  have it₃ : h₁.IsListIter I ax 0 := by obtain ⟨o, e, d⟩ := hit0; exact ⟨o, old _ _ e, d⟩
  have hclass : ((compEnvC scope cl H2.objs.size env).scope.kind == .class || ((compEnvC scope cl H2.objs.size env).scope.kind == .module && (compEnvC scope cl H2.objs.size env).locals != (compEnvC scope cl H2.objs.size env).globals)) = false := by simp [compEnvC, relabel, hkind]
  have loop : ∀ R : Result → Shared → Prop, (∀ h' tk m'' ys, Fr h₀ env.locals h' m → News h₀ env.locals h' ((H1.objs.size, lst ys) :: news) → h'.Ns H2.objs.size m'' → Grid F its2 its1 ys → R (.ok .next) { s₁ with heap := h', toks := tk }) →
      codeAny (model prog w) A (.compLoop (two elt x px it1 y py it2 scope pos) 0 (.ref I) (.ref H1.objs.size) (compEnvC scope cl H2.objs.size env)) R { s₁ with heap := h₁, toks := s₁.toks + ([] : List (Str × Value)).length } := fun R hR =>
    outer_two (C := H2.objs.size) hh rfl (lookup_relabel_local hx) (lookup_relabel_local hy) hxy hclass P hax hls hsz (fun v₁ v₂ s' m₂ E' => helt _ v₁ v₂ s' m₂ E') (fun s' m₂ E' => hit2 _ s' m₂ E') (hfs _) (F₂.keeps old) N₃ hns₁ it₃ hR
  have ends : ∀ h' tk m'' ys, Fr h₀ env.locals h' m → News h₀ env.locals h' ((H1.objs.size, lst ys) :: news) → h'.Ns H2.objs.size m'' → Grid F its2 its1 ys → compPost (model prog w) A E (some (assign (.Name z pz) env)) (fun _ s' => Q .next s') (.ref H1.objs.size) H2.objs.size (.ok .next) { s₁ with heap := h', toks := tk } := by
    intro h' tk m' ys F' N' hn hg
    show wpAny _ A (assign (.Name z pz) env (.ref H1.objs.size)) _ _ _
    refine wpAny_assign_Name (wpAny_storeName_local hz F'.ns (fun h₂ hn₂ hs₂ => ?_) hp)
    have hL₀ : h₀.get? env.locals = none := Heap.get?_none_of_le F'.above
    have F₂ : Fr h₀ env.locals h₂ (fun q => if q = z then some (.ref H1.objs.size) else m q) := ⟨hn₂, fun b o e => hs₂.extBut b o (fun q => by rw [q, hL₀] at e; cases e) (F'.keep b o e), F'.above⟩
    refine ⟨m', hn.sameBut hs₂ hCL, fun h'' hs'' => fin _ h'' _ ys hg (F₂.change hs'' hCL hC₀) (fun p hp => ?_) fun p hp => (P.off p hp).2.2⟩
    have z : h₂.get? p.1 = some p.2 := hs₂.extBut _ _ (N' p hp).2.1 (N' p hp).1
    refine ⟨hs''.extBut _ _ ?_ z, (N' p hp).2⟩
    rcases List.mem_cons.mp hp with rfl | hp
    · exact hDC
    · exact (P.off p hp).2.1
  exact codeAny_compStart_list (loop _ ends) (wpAny_pyIter_listiter it₃ (loop _ ends))
end
end Mine

end
section
namespace Mine
/-- all texts of a length, out of these signs -/
def textsAt (sg : List Nat) : Nat → List (List Nat)
  | 0 => [[]]
  | j + 1 => (textsAt sg j).flatMap fun t => sg.map fun c => t ++ [c]
def wt (l : List Nat) : Nat := l.length + 4 * l.count 34
def toldsAt (st : St) (sg : List Nat) (j : Nat) : List Int := (textsAt sg j).map fun t => (wt (more st t) : Int)
def nrm1 (c : Nat) : Nat := if c = 34 then 34 else 0
theorem nrm1_q {c : Nat} : nrm1 c = 34 ↔ c = 34 := by unfold nrm1; split <;> simp_all
theorem wt_cons (c : Nat) (l : List Nat) : wt (c :: l) = (if c = 34 then 5 else 1) + wt l := by
  unfold wt; rw [List.length_cons, List.count_cons]; split <;> simp_all <;> omega
theorem wt_rd : ∀ (k : Nat) (t : List Nat), t.length ≤ k → wt (rd t) = wt (rd (t.map nrm1))
  | 0, t, h => by
    have : t = [] := List.length_eq_zero_iff.mp (by omega)
    subst this; rfl
  | k + 1, [], _ => rfl
  | k + 1, c :: r, h => by
    rw [List.map_cons]
    by_cases hc : c = 34
    · subst hc
      cases r with
      | nil => rfl
      | cons d r' =>
        rw [List.map_cons]
        by_cases hd : d = 34
        · subst hd
          rw [show nrm1 34 = 34 from rfl, rd_qq, rd_qq, wt_cons, wt_cons, wt_rd k r' (by simp at h; omega)]
        · rw [show nrm1 34 = 34 from rfl, rd_qc _ hd, rd_qc _ (fun e => hd (nrm1_q.mp e))]
    · rw [rd_c _ hc, rd_c _ (fun e => hc (nrm1_q.mp e)), wt_cons, wt_cons, wt_rd k r (by simp at h; omega), if_neg hc, if_neg (fun e => hc (nrm1_q.mp e))]
theorem wt_more (st : St) (t : List Nat) : wt (more st t) = wt (more st (t.map nrm1)) := by
  cases st with
  | on => exact wt_rd _ t (Nat.le_refl _)
  | half => exact wt_rd _ (34 :: t) (Nat.le_refl _)
  | shut => rfl
theorem texts_nrm (sg : List Nat) : ∀ j : Nat, (textsAt sg j).map (fun t => t.map nrm1) = textsAt (sg.map nrm1) j
  | 0 => rfl
  | j + 1 => by
    rw [textsAt, textsAt, ← texts_nrm sg j, List.map_flatMap, List.flatMap_map]
    congr 1
    funext t
    simp [List.map_map, Function.comp_def]
theorem tolds_nrm (st : St) (sg : List Nat) (j : Nat) : toldsAt st sg j = toldsAt st (sg.map nrm1) j := by
  rw [toldsAt, toldsAt, ← texts_nrm sg j, List.map_map]
  congr 1
  funext t
  show ((wt (more st t) : Nat) : Int) = ((wt (more st (t.map nrm1)) : Nat) : Int)
  rw [wt_more]
theorem texts_len (sg : List Nat) : ∀ j : Nat, (textsAt sg j).length = sg.length ^ j
  | 0 => rfl
  | j + 1 => by
    have : ∀ l : List (List Nat), (l.flatMap fun t => sg.map fun c => t ++ [c]).length = l.length * sg.length := by
      intro l
      induction l with
      | nil => simp
      | cons a l ih => rw [List.flatMap_cons, List.length_append, ih, List.length_map, List.length_cons, Nat.succ_mul]; omega
    rw [textsAt, this, texts_len sg j, Nat.pow_succ]
def countsOf (row : List Int) (tl : List Int) : List Int := (List.range row.length).map fun (k : Nat) => ((tl.count (k : Int) : Nat) : Int)
/-- the signs of the law -/
def sgOf (o k : Nat) : List Nat := if o = 1 then [34, k] else [34, k, k + 1]
theorem sg_nrm {o k : Nat} (ho : o = 1 ∨ o = 2) (hk : 35 ≤ k) : (sgOf o k).map nrm1 = if o = 1 then [34, 0] else [34, 0, 0] := by
  have h1 : nrm1 k = 0 := by unfold nrm1; rw [if_neg (by omega)]
  have h2 : nrm1 (k + 1) = 0 := by unfold nrm1; rw [if_neg (by omega)]
  rcases ho with rfl | rfl <;> simp [sgOf, h1, h2] <;> rfl
def rowsRight (st : St) (o : Nat) : Bool := (List.range (mostOf o + 1)).all fun j => match (cnts st o)[j]? with
  | some row => decide (countsOf row (toldsAt st (if o = 1 then [34, 0] else [34, 0, 0]) j) = row ∧ row.sum = (((if o = 1 then [34, 0] else [34, 0, 0] : List Nat).length ^ j : Nat) : Int))
  | none => true
theorem rows_right (st : St) {o : Nat} (ho : o = 1 ∨ o = 2) : rowsRight st o = true := by
  rcases ho with rfl | rfl <;> cases st <;> decide +kernel
theorem row_right {st : St} {o k j : Nat} {row : List Int} (ho : o = 1 ∨ o = 2) (hk : 35 ≤ k) (hr : (cnts st o)[j]? = some row) :
    countsOf row (toldsAt st (sgOf o k) j) = row ∧ row.sum = ((textsAt (sgOf o k) j).length : Int) := by
  have hj : j < mostOf o + 1 := by
    rw [← cnts_len st ho]
    rcases Nat.lt_or_ge j (cnts st o).length with h | h
    · exact h
    · rw [List.getElem?_eq_none h] at hr; cases hr
  have h1 := List.all_eq_true.mp (rows_right st ho) j (List.mem_range.mpr hj)
  simp only [hr, decide_eq_true_eq] at h1
  rw [tolds_nrm, sg_nrm ho hk, texts_len, ← List.length_map (f := nrm1), sg_nrm ho hk]
  exact h1
theorem strs_snoc_inv {l : List Value} {v : Value} {xs : List Str} (h : StrsAre (l ++ [v]) xs) : ∃ xs' x t, xs = xs' ++ [x] ∧ StrsAre l xs' ∧ v = .str x t := by
  induction l generalizing xs with
  | nil =>
    cases h with
    | cons a t h =>
      cases h
      exact ⟨[], a, t, rfl, .nil, rfl⟩
  | cons b l ih =>
    cases h with
    | cons a t h =>
      obtain ⟨xs', x, t', rfl, h1, h2⟩ := ih h
      exact ⟨_ :: xs', x, t', rfl, .cons _ _ h1, h2⟩
/-- text + sign -/
def Glue (v₁ v₂ r : Value) : Prop := ∃ a b t1 t2 t, v₁ = .str a t1 ∧ v₂ = .str b t2 ∧ r = .str (a ++ b) t
theorem glue_row {t : List Nat} {tv : Tok} {sg : List Nat} : ∀ {its2 zs : List Value}, Paired (Glue (.str (S t) tv)) its2 zs → StrsAre its2 (sg.map fun c => S [c]) → StrsAre zs ((sg.map fun c => t ++ [c]).map S) := by
  induction sg with
  | nil =>
    intro its2 zs hP hS
    cases hS
    cases hP
    exact .nil
  | cons c sg ih =>
    intro its2 zs hP hS
    cases hS with
    | cons _ _ hS =>
      cases hP with
      | cons hg hP =>
        obtain ⟨a, b, t1, t2, t3, e1, e2, rfl⟩ := hg
        cases e1; cases e2
        rw [S_app, List.map_cons, List.map_cons]
        exact .cons _ _ (ih hP hS)
theorem strs_append {a b : List Value} {x y : List Str} (h : StrsAre a x) (k : StrsAre b y) : StrsAre (a ++ b) (x ++ y) := by
  induction h with
  | nil => exact k
  | cons a t _ ih => exact .cons a t ih
theorem grid_texts {its2 : List Value} {sg : List Nat} (h2 : StrsAre its2 (sg.map fun c => S [c])) {l ys : List Value} (hg : Grid Glue its2 l ys) : ∀ ts : List (List Nat), StrsAre l (ts.map S) → StrsAre ys ((ts.flatMap fun t => sg.map fun c => t ++ [c]).map S) := by
  induction hg with
  | nil =>
    intro ts h
    cases ts with
    | nil => exact .nil
    | cons a b => cases h
  | @snoc l ys v zs _ hp ih =>
    intro ts h
    obtain ⟨xs', x, t, e, h1, rfl⟩ := strs_snoc_inv h
    obtain ⟨ta, tb, rfl, e1, e2⟩ := List.map_eq_append_iff.mp e
    obtain ⟨tx, rfl, rfl⟩ := List.map_eq_singleton_iff.mp e2
    subst e1
    rw [List.flatMap_append, List.map_append]
    refine strs_append (ih ta h1) ?_
    rw [List.flatMap_singleton]
    exact glue_row hp h2
end Mine

end
section
namespace Mine
theorem str_at {vs : List Value} {ts : List (List Nat)} (h : StrsAre vs (ts.map S)) : ∀ {j : Nat} {v : Value}, vs[j]? = some v → ∃ t tt, v = .str (S t) tt ∧ ts[j]? = some t := by
  induction ts generalizing vs with
  | nil => cases h; intro j v hv; simp at hv
  | cons a ts ih =>
    rw [List.map_cons] at h
    cases h with
    | cons _ t h =>
      intro j v hv
      cases j with
      | zero => simp only [List.getElem?_cons_zero, Option.some.injEq] at hv; exact ⟨a, t, hv.symm, rfl⟩
      | succ j => rw [List.getElem?_cons_succ] at hv ⊢; exact ih h hv
theorem strs_len {vs : List Value} {xs : List Str} (h : StrsAre vs xs) : vs.length = xs.length := by
  induction h with
  | nil => rfl
  | cons _ _ _ ih => rw [List.length_cons, List.length_cons, ih]
theorem texts_each (sg : List Nat) : ∀ (j : Nat), ∀ t ∈ textsAt sg j, t.length = j
  | 0, t, h => by rw [List.mem_singleton.mp h]; rfl
  | j + 1, t, h => by
    rw [textsAt, List.mem_flatMap] at h
    obtain ⟨a, ha, h⟩ := h
    obtain ⟨c, _, rfl⟩ := List.mem_map.mp h
    rw [List.length_append, texts_each sg j a ha]; rfl
theorem open_app2 (f t : List Nat) : Str.ofString "257 \"" ++ S f ++ S t = S (opening ++ (f ++ t)) := by
  rw [open_app, S_app, List.append_assoc]
theorem rd_len : ∀ (k : Nat) (t : List Nat), t.length ≤ k → (rd t).length ≤ t.length
  | 0, t, h => by
    have : t = [] := List.length_eq_zero_iff.mp (by omega)
    subst this; simp [rd]
  | k + 1, [], _ => by simp [rd]
  | k + 1, c :: r, h => by
    by_cases hc : c = 34
    · subst hc
      cases r with
      | nil => rw [rd_q1]; simp
      | cons d r' =>
        by_cases hd : d = 34
        · subst hd
          rw [rd_qq]
          have := rd_len k r' (by simp at h; omega)
          simp; omega
        · rw [rd_qc _ hd]; simp
    · rw [rd_c _ hc]
      have := rd_len k r (by simp at h; omega)
      simp; omega
theorem more_len (st : St) (t : List Nat) : (more st t).length ≤ t.length + 1 := by
  cases st with
  | on => exact Nat.le_trans (rd_len _ t (Nat.le_refl _)) (by omega)
  | half => exact rd_len _ (34 :: t) (Nat.le_refl _)
  | shut => simp [more]
theorem slice_told {a b : List Nat} {j : Int} (hj : j = ((S a).length : Int)) : Txt.slice (S (a ++ b)) none (some j) = S a ∧ Txt.slice (S (a ++ b)) (some j) none = S b := by
  rw [S_len] at hj
  subst hj
  rw [slice_to (by omega) (by simp; omega), slice_from (by omega) (by simp; omega)]
  simp
theorem cnt_count (c : Nat) : ∀ l : List Nat, cnt c l = ((l.count c : Nat) : Int)
  | [] => rfl
  | d :: l => by
    rw [cnt_cons, cnt_count c l, List.count_cons]
    split <;> simp_all <;> omega
theorem count_S (l : List Nat) : Txt.count (S l) (Str.ofString "\"") = ((l.count 34 : Nat) : Int) := by
  rw [quote_lit, show S [34] = ⟨#[34]⟩ from rfl, count_cnt, cnt_count, S_cps]
theorem wt_eq {x : Str} {l : List Nat} (h : x = S l) : (x.length : Int) + 4 * Txt.count x (Str.ofString "\"") = (wt l : Int) := by
  rw [h, count_S, S_len]; unfold wt; omega
theorem ints_snoc {vs : List Value} {ns ns' : List Int} {a : Int} {t : Tok} (h : IntsAre vs ns) (e : ns' = ns ++ [a]) : IntsAre (vs ++ [.int a t]) ns' := by
  rw [e]; exact IntsAre.append h (.cons a t .nil)
section
variable {prog : Program} {w : World} {A : Around} {E : Value → Shared → Prop} {s : Shared} {h₀ : Heap} {L D : Addr} {news : Led} {vs : List Value} {e : Nat}
theorem len_S {Q : Value → Shared → Prop} (N : News h₀ L s.heap news) (hm : (D, listOf vs.toArray e) ∈ news) {k : Nat} (hi : vs.length = k) (hf : (k : Int) ≤ 1000000) (h : Q (.int (k : Nat) (s.toks + 1)) { s with toks := s.toks + 1 + 1 }) :
    wpAny (model prog w) A (call (.builtin "len") [.ref D]) Q E s :=
  KM.len_K N hm (by rw [List.size_toArray, hi]) (by omega) h
end
theorem strs_mem {vs : List Value} {xs : List Str} (h : StrsAre vs xs) : ∀ v ∈ vs, ∃ x ∈ xs, ∃ t, v = .str x t := by
  induction h with
  | nil => intro v hv; cases hv
  | cons a t _ ih =>
    intro v hv
    rcases List.mem_cons.mp hv with rfl | hv
    · exact ⟨a, .head _, t, rfl⟩
    · obtain ⟨x, hx, t', e⟩ := ih v hv
      exact ⟨x, .tail _ hx, t', e⟩
theorem sub_turn {d3 d2 a d i c t s1 s2 : Addr × Obj} {rest : Led} : ∀ p ∈ c :: d3 :: s1 :: s2 :: rest, p ∈ d3 :: d2 :: a :: d :: i :: c :: t :: s1 :: s2 :: rest := by
  intro p hp
  simp only [List.mem_cons] at hp ⊢
  rcases hp with h | h | h | h | h <;> simp only [h, true_or, or_true]
end Mine

end
section
set_option maxRecDepth 100000
set_option maxHeartbeats 8000000
namespace Mine
open_top hd for PySem.Challenge.rw_nb0143_02
end Mine

end
section
set_option maxRecDepth 100000
set_option maxHeartbeats 8000000
namespace Mine
theorem parse257_ok (w : World) (t : List Nat) (tk : Tok) (news : Led) (ht : t.length ≤ 100000) :
    CallOk PySem.Challenge.rw_nb0143_02.row.prog w (Mine.hd.heap_39 w.params) 81 [.str (S (opening ++ t)) tk] 2 8 news
      (fun r news' => news' = news ∧ ∃ tk', r = .str (S (rd t)) tk') := by
  k_fill
  refine callOk_of_body (dep := 1) (uni := 5) [(Str.ofString "resp", _)] rfl rfl (fun _ => BindsTo.of_eq rfl) (locs rfl) ?_ rfl rfl rfl (by decide)
  have h3 : (Txt.slice (S (opening ++ t)) none (some 3) != Str.ofString "257") = false := by
    rw [slice_to (by decide) (by simp [opening]; omega), S_lit (s := "257") (l := [50, 53, 55]) rfl]; simp [opening]
  have h5 : (Txt.slice (S (opening ++ t)) (some 3) (some 5) != Str.ofString " \"") = false := by
    rw [slice_mid (by decide) (by decide) (by simp [opening]; omega), S_lit (s := " \"") (l := [32, 34]) rfl]; simp [opening]
  have hl : (S (opening ++ t)).length = t.length + 5 := by rw [S_len]; simp [opening]
  generalize hR : S (opening ++ t) = R at *
  intro p loose mean mg mb dp un gd outer A₀ base g L s B F X N hlt T hd hu
  repeat' (first | ((fail_if_success (with_reducible show wpAny _ _ (exec (Stmt.While _ _ _ _) _) _ _ _)); first | (k_unfold; (try dsimp only)) | walk1 | (dsimp only; walk1) | (leave1; walk_say "STEP leave1"; try dsimp only)) | fail "no step")
  rename Fr _ _ _ _ => F'; rename News _ _ _ _ => N'
  refine ksw_while (σ := Int × Str × Tok × Tok) (fun _ => news) (fun c => [(Str.ofString "i", .int c.1 c.2.2.1), (Str.ofString "dirname", .str c.2.1 c.2.2.2)]) (fun _ => True) [Str.ofString "c"]
    (fun c => PInv t c.1 c.2.1) (fun c => (t.length + 5 - c.1).toNat) (5, _, _, _) F' N' trivial (by kst_all) ⟨Int.le_refl _, by dsimp only; omega, Int.ofNat_le.mpr (by decide : (Str.ofString "").length ≤ 5), by show (Str.ofString "").cps.toList ++ rd t = rd t; rw [show Str.ofString "" = S [] from S_lit rfl, S_cps]; rfl⟩ ?_ PassesOwn.never
  rintro ⟨i, d, ti, td⟩ u h tk _ hI kF kN
  dsimp only [kstB] at hI kF kN
  obtain ⟨h1, h2, h4, h6⟩ := id hI
  have h7 : d.length ≤ 200000 := by omega
  k_steps
  all_goals (try dsimp only)
  all_goals first
    | exact Ends.intro (by assumption) (by assumption) ⟨rfl, td, congrArg (Value.str · td) (PInv.last hR hI (by assumption) (by assumption) (by assumption))⟩
    | exact Ends.intro (by assumption) (by assumption) ⟨rfl, td, congrArg (Value.str · td) (PInv.shut hR hI (by assumption) (by assumption) (by assumption) (by assumption))⟩
    | exact Ends.intro (by assumption) (by assumption) ⟨rfl, td, congrArg (Value.str · td) (PInv.out hR hI (by assumption))⟩
    | exact ksw_end (_, _, _, _) (by assumption) (by assumption) (fun _ h => h) trivial (by kst_all) (by ksw_same) (PInv.quotes hR hI (by assumption) (by assumption) (by assumption) (by assumption)) (by dsimp only; omega)
    | exact ksw_end (_, _, _, _) (by assumption) (by assumption) (fun _ h => h) trivial (by kst_all) (by ksw_same) (PInv.char hR hI (by assumption) (by assumption)) (by dsimp only; omega)
end Mine

end
section
set_option maxRecDepth 100000
set_option maxHeartbeats 8000000
namespace Mine
section
local macro_rules | `(tactic| bits_by_make) => `(tactic| with_reducible assumption)
theorem div3_ok (w : World) (dep uni : Nat) (a12 a3 b b1 b2 n : Int) (t1 t2 t3 t4 t5 t6 : Tok) (news : Led) (hp : Pre3 a12 a3 b b1 b2 n)
    (IH : ∀ a b, Pre2 a b n → ∀ news ta tb tn, CallOk PySem.Challenge.rw_nb0143_02.row.prog w (Mine.hd.heap_39 w.params) 21 [.int a ta, .int b tb, .int n tn] dep uni news (DivPost a b news)) :
    CallOk PySem.Challenge.rw_nb0143_02.row.prog w (Mine.hd.heap_39 w.params) 28 [.int a12 t1, .int a3 t2, .int b t3, .int b1 t4, .int b2 t5, .int n t6] (dep + 1) (uni + 3) news
      (DivPost (a12 * 2 ^ n.toNat + a3) b news) := by
  k_fill
  refine callOk_of_body (dep := dep) (uni := uni) [(Str.ofString "a12", _), (Str.ofString "a3", _), (Str.ofString "b", _), (Str.ofString "b1", _), (Str.ofString "b2", _), (Str.ofString "n", _)] rfl rfl (fun _ => BindsTo.of_eq rfl) (locs rfl) ?_ rfl rfl rfl (by decide)
  intro p loose mean mg mb dp un gd outer A₀ base g L s B F X N hlt T hd hu
  have hbp := hp.bpos
  have n0 := hp.n0
  have n1 := hp.n1
  obtain ⟨hb1, hb2, hbb, hba⟩ := hp.bits
  repeat' (first | ((fail_if_success (with_reducible show wpAny _ _ (exec (Stmt.While _ _ _ _) _) _ _ _)); (fail_if_success (with_reducible show wpAny _ _ (call (Value.ref _) _) _ _ _)); first | (k_unfold; (try dsimp only)) | walk1 | (dsimp only; walk1) | (leave1; walk_say "STEP leave1"; try dsimp only)) | fail "no step")
  rotate_left
  · refine CallOk.use (IH a12 b1 (hp.two (by assumption)) _ _ _ _) B (by assumption) X (by assumption) T rfl hd hu ?_
    rintro r9 news9 h9 tk9 F9 N9 ⟨ad, q, rr, u1, u2, rfl, rfl, hl9, e1, e2, e3⟩
    obtain ⟨hq, hr⟩ := divBits hp.b1pos hp.a0 hba e1 e2 e3
    repeat' (first | ((fail_if_success (with_reducible show wpAny _ _ (exec (Stmt.While _ _ _ _) _) _ _ _)); (fail_if_success (with_reducible show wpAny _ _ (call (Value.ref _) _) _ _ _)); first | (k_unfold; (try dsimp only)) | walk1 | (dsimp only; walk1) | (leave1; walk_say "STEP leave1"; try dsimp only)) | fail "no step")
    rename Fr _ _ _ _ => F'; rename News _ _ _ _ => N'
    refine ksw_while (σ := Int × Int × Tok × Tok) (fun _ => news) (fun c => [(Str.ofString "q", .int c.1 c.2.2.1), (Str.ofString "r", .int c.2.1 c.2.2.2)]) (fun _ => True) []
      (fun c => c.1 * b + c.2.1 = a12 * 2 ^ n.toNat + a3 ∧ c.2.1 < b) (fun c => (-c.2.1).toNat) (_, _, _, _) F' (fun p hp => N' p (.tail _ hp)) trivial (by kst_all) ⟨hp.start e1 e2, hp.start2 e1 e2 e3⟩ ?_ PassesOwn.never
    rintro ⟨q, r, tq, tr⟩ u h tk _ ⟨e1, e2⟩ kF kN
    dsimp only [kstB] at e1 e2 kF kN
    k_steps
    all_goals (try dsimp only)
    all_goals first
      | exact Ends.intro (by assumption) (by assumption) ⟨_, q, r, tq, tr, rfl, rfl, by assumption, e1, by omega, e2⟩
      | exact ksw_end (_, _, _, _) (by assumption) (by assumption) (fun _ h => h) trivial (by kst_all) (by ksw_same) ⟨by dsimp only; rw [← e1, Int.sub_mul]; omega, by dsimp only; omega⟩ (by dsimp only; omega)
  · obtain ⟨e1, e2⟩ := hp.start1 (by assumption)
    rename Fr _ _ _ _ => F'; rename News _ _ _ _ => N'
    refine ksw_while (σ := Int × Int × Tok × Tok) (fun _ => news) (fun c => [(Str.ofString "q", .int c.1 c.2.2.1), (Str.ofString "r", .int c.2.1 c.2.2.2)]) (fun _ => True) []
      (fun c => c.1 * b + c.2.1 = a12 * 2 ^ n.toNat + a3 ∧ c.2.1 < b) (fun c => (-c.2.1).toNat) (_, _, _, _) F' (fun p hp => N' p (.tail _ hp)) trivial (by kst_all) ⟨hp.start e2 e1, hp.less rfl (hp.start e2 e1)⟩ ?_ PassesOwn.never
    rintro ⟨q, r, tq, tr⟩ u h tk _ ⟨e1, e2⟩ kF kN
    dsimp only [kstB] at e1 e2 kF kN
    k_steps
    all_goals (try dsimp only)
    all_goals first
      | exact Ends.intro (by assumption) (by assumption) ⟨_, q, r, tq, tr, rfl, rfl, by assumption, e1, by omega, e2⟩
      | exact ksw_end (_, _, _, _) (by assumption) (by assumption) (fun _ h => h) trivial (by kst_all) (by ksw_same) ⟨by dsimp only; rw [← e1, Int.sub_mul]; omega, by dsimp only; omega⟩ (by dsimp only; omega)
end
end Mine

end
section
set_option maxRecDepth 100000
set_option maxHeartbeats 8000000
namespace Mine
section
local macro_rules | `(tactic| bits_by_make) => `(tactic| with_reducible assumption)
theorem fr_kst {g : Heap} {L : Addr} {h : Heap} {M : Str → Option Value} {ps : List (Str × Value)} (F : Fr g L h M) (hp : ∀ p ∈ ps, M p.1 = some p.2) : Fr g L h (kstB M ps) := by
  have e : kstB M ps = M := funext fun z => kstB_eq hp fun _ => rfl
  rw [e]; exact F
def fnParts (K : Frag) (f : Addr) : Option (Scope × List Stmt) := match K.lookup f with
  | some ⟨_, _, .func fd, _⟩ => (match fd.body with
    | .stmts b => some (fd.scope, b)
    | _ => none)
  | _ => none
theorem div2_tail (w : World) {scope : Scope} {cb : List Stmt} (hdef : fnParts (Mine.hd.heap_39 w.params) 21 = some (scope, cb)) {qual : Str} {cdv : Value} {fa : Addr}
    {p : Program} {loose : List Str} {mean : ExcName → Option Value} {mg mb : Str → Option Value} {dp un : Nat} {gd : Option (List Code)} {outer : List Env} {A₀ : Around} {base g : Heap} {L : Addr}
    (B : Below A₀ base outer g) (X : ((Mine.hd.heap_39 w.params)).In g) (T : Top p loose mean mg mb g) {k : Nat} (hd : dp + (2 * k + 3) < recursionLimit) (hu : un + (6 * k + 11) < cLine)
    (ih : ∀ (a b n : Int), Pre2 a b n → n ≤ 2000 * 2 ^ k → ∀ (news : Led) (ta tb tn : Tok), CallOk PySem.Challenge.rw_nb0143_02.row.prog w (Mine.hd.heap_39 w.params) 21 [.int a ta, .int b tb, .int n tn] (2 * k + 2) (6 * k + 8) news (DivPost a b news))
    {a0 b0 a b n pad : Int} {ta tb tn tp : Tok} (hq : Pre2 a b n) (hev : n % 2 = 0) (h4 : 2 ≤ n) (hhalf : n / 2 ≤ 2000 * 2 ^ k)
    (hz : pad = 0 → a = a0 ∧ b = b0) (hnz : pad ≠ 0 → a = a0 * 2 ∧ b = b0 * 2) {m : Str → Option Value} {news : Led} {s : Shared} {h : Heap} {tk : Nat}
    (F : Fr g L h (kstB m [(Str.ofString "a", .int a ta), (Str.ofString "b", .int b tb), (Str.ofString "n", .int n tn), (Str.ofString "pad", .int pad tp)]))
    (N : News g L h news) :
    wpAny (model PySem.Challenge.rw_nb0143_02.row.prog w) (ktrTop dp un gd qual scope L fa cdv [] outer) (execs (cb.drop 3) (envX qual scope L fa cdv []))
      (Ends g L s (DivPost a0 b0 news)) (fun _ _ => False) { s with heap := h, toks := tk } := by
  revert X
  k_fill
  intro X
  have hdef' : fnParts (Mine.hd.heap_39 w.params) 21 = some _ := rfl
  rw [hdef'] at hdef
  cases hdef
  clear hdef'
  dsimp only [List.drop]
  dsimp only [kstB] at F
  have n0 := hq.n0
  have n1 := hq.n1
  obtain ⟨hqa, hqb⟩ := hq.bits
  repeat' (first | ((fail_if_success (with_reducible show wpAny _ _ (call (Value.ref _) _) _ _ _)); first | ((with_reducible show wpAny _ _ (call (Value.builtin _) [Value.int _ _, Value.int _ _]) _ _ _); refine divmod_N (by assumption) (by assumption) (by assumption) ?_ (Or.inl (by assumption)); intro _ _ _) | ((with_reducible refine shl_one ?k1 ?k2 ?_); (case k1 => first | assumption | omega); (case k2 => first | assumption | omega)) | ((with_reducible refine' shl_any ?k1 ?k2 ?k3 ?k4 ?_); (case k1 => first | assumption | omega); (case k2 => first | assumption | omega); (case k3 => bits_by_make); (case k4 => first | decide | omega)) | ((with_reducible refine' ishl_one ?k3 ?k4 ?_); (case k3 => bits_by_make); (case k4 => first | decide | omega)) | (with_reducible refine shr_one ?_) | ((with_reducible refine shr_any ?k1 ?_); (case k1 => first | assumption | omega)) | (with_reducible refine ishr_one ?_) | (with_reducible refine and_one ?_) | (with_reducible refine and_mask ?_) | ((with_reducible refine or_shifted ?k1 ?k2 ?k3 ?_); (case k1 => assumption); (case k2 => assumption); (case k3 => assumption)) | (k_unfold; (try dsimp only)) | walk1 | (dsimp only; first | ((with_reducible show wpAny _ _ (call (Value.builtin _) [Value.int _ _, Value.int _ _]) _ _ _); refine divmod_N (by assumption) (by assumption) (by assumption) ?_ (Or.inl (by assumption)); intro _ _ _) | ((with_reducible refine shl_one ?k1 ?k2 ?_); (case k1 => first | assumption | omega); (case k2 => first | assumption | omega)) | ((with_reducible refine' shl_any ?k1 ?k2 ?k3 ?k4 ?_); (case k1 => first | assumption | omega); (case k2 => first | assumption | omega); (case k3 => bits_by_make); (case k4 => first | decide | omega)) | ((with_reducible refine' ishl_one ?k3 ?k4 ?_); (case k3 => bits_by_make); (case k4 => first | decide | omega)) | (with_reducible refine shr_one ?_) | ((with_reducible refine shr_any ?k1 ?_); (case k1 => first | assumption | omega)) | (with_reducible refine ishr_one ?_) | (with_reducible refine and_one ?_) | (with_reducible refine and_mask ?_) | ((with_reducible refine or_shifted ?k1 ?k2 ?k3 ?_); (case k1 => assumption); (case k2 => assumption); (case k3 => assumption)) | walk1) | (leave1; walk_say "STEP leave1"; try dsimp only)) | fail "no step")
  refine CallOk.use (div3_ok w _ _ _ _ _ _ _ _ _ _ _ _ _ _ _ (hq.first hev h4) (fun a b hp => ih a b _ hp hhalf)) B (by assumption) X (by assumption) T rfl hd hu ?_
  rintro r9 news9 h9 tk9 F9 N9 ⟨ad, q1, r1, u1, u2, rfl, rfl, hl9, e1, e2, e3⟩
  repeat' (first | ((fail_if_success (with_reducible show wpAny _ _ (call (Value.ref _) _) _ _ _)); first | ((with_reducible show wpAny _ _ (call (Value.builtin _) [Value.int _ _, Value.int _ _]) _ _ _); refine divmod_N (by assumption) (by assumption) (by assumption) ?_ (Or.inl (by assumption)); intro _ _ _) | ((with_reducible refine shl_one ?k1 ?k2 ?_); (case k1 => first | assumption | omega); (case k2 => first | assumption | omega)) | ((with_reducible refine' shl_any ?k1 ?k2 ?k3 ?k4 ?_); (case k1 => first | assumption | omega); (case k2 => first | assumption | omega); (case k3 => bits_by_make); (case k4 => first | decide | omega)) | ((with_reducible refine' ishl_one ?k3 ?k4 ?_); (case k3 => bits_by_make); (case k4 => first | decide | omega)) | (with_reducible refine shr_one ?_) | ((with_reducible refine shr_any ?k1 ?_); (case k1 => first | assumption | omega)) | (with_reducible refine ishr_one ?_) | (with_reducible refine and_one ?_) | (with_reducible refine and_mask ?_) | ((with_reducible refine or_shifted ?k1 ?k2 ?k3 ?_); (case k1 => assumption); (case k2 => assumption); (case k3 => assumption)) | (k_unfold; (try dsimp only)) | walk1 | (dsimp only; first | ((with_reducible show wpAny _ _ (call (Value.builtin _) [Value.int _ _, Value.int _ _]) _ _ _); refine divmod_N (by assumption) (by assumption) (by assumption) ?_ (Or.inl (by assumption)); intro _ _ _) | ((with_reducible refine shl_one ?k1 ?k2 ?_); (case k1 => first | assumption | omega); (case k2 => first | assumption | omega)) | ((with_reducible refine' shl_any ?k1 ?k2 ?k3 ?k4 ?_); (case k1 => first | assumption | omega); (case k2 => first | assumption | omega); (case k3 => bits_by_make); (case k4 => first | decide | omega)) | ((with_reducible refine' ishl_one ?k3 ?k4 ?_); (case k3 => bits_by_make); (case k4 => first | decide | omega)) | (with_reducible refine shr_one ?_) | ((with_reducible refine shr_any ?k1 ?_); (case k1 => first | assumption | omega)) | (with_reducible refine ishr_one ?_) | (with_reducible refine and_one ?_) | (with_reducible refine and_mask ?_) | ((with_reducible refine or_shifted ?k1 ?k2 ?k3 ?_); (case k1 => assumption); (case k2 => assumption); (case k3 => assumption)) | walk1) | (leave1; walk_say "STEP leave1"; try dsimp only)) | fail "no step")
  refine CallOk.use (div3_ok w _ _ _ _ _ _ _ _ _ _ _ _ _ _ _ (hq.second hev h4 e2 e3) (fun a b hp => ih a b _ hp hhalf)) B (by assumption) X (by assumption) T rfl hd hu ?_
  rintro r8 news8 h8 tk8 F8 N8 ⟨ad2, q2, r2, v1, v2, rfl, rfl, hl8, f1, f2, f3⟩
  obtain ⟨g1, g2, g3, g4⟩ := hq.join hev e1 e2 e3 f1 f2 f3
  have hq1 := hq.bitsQ hev e1 e2 e3
  repeat' (first | (first | ((with_reducible show wpAny _ _ (call (Value.builtin _) [Value.int _ _, Value.int _ _]) _ _ _); refine divmod_N (by assumption) (by assumption) (by assumption) ?_ (Or.inl (by assumption)); intro _ _ _) | ((with_reducible refine shl_one ?k1 ?k2 ?_); (case k1 => first | assumption | omega); (case k2 => first | assumption | omega)) | ((with_reducible refine' shl_any ?k1 ?k2 ?k3 ?k4 ?_); (case k1 => first | assumption | omega); (case k2 => first | assumption | omega); (case k3 => bits_by_make); (case k4 => first | decide | omega)) | ((with_reducible refine' ishl_one ?k3 ?k4 ?_); (case k3 => bits_by_make); (case k4 => first | decide | omega)) | (with_reducible refine shr_one ?_) | ((with_reducible refine shr_any ?k1 ?_); (case k1 => first | assumption | omega)) | (with_reducible refine ishr_one ?_) | (with_reducible refine and_one ?_) | (with_reducible refine and_mask ?_) | ((with_reducible refine or_shifted ?k1 ?k2 ?k3 ?_); (case k1 => assumption); (case k2 => assumption); (case k3 => assumption)) | (k_unfold; (try dsimp only)) | walk1 | (dsimp only; first | ((with_reducible show wpAny _ _ (call (Value.builtin _) [Value.int _ _, Value.int _ _]) _ _ _); refine divmod_N (by assumption) (by assumption) (by assumption) ?_ (Or.inl (by assumption)); intro _ _ _) | ((with_reducible refine shl_one ?k1 ?k2 ?_); (case k1 => first | assumption | omega); (case k2 => first | assumption | omega)) | ((with_reducible refine' shl_any ?k1 ?k2 ?k3 ?k4 ?_); (case k1 => first | assumption | omega); (case k2 => first | assumption | omega); (case k3 => bits_by_make); (case k4 => first | decide | omega)) | ((with_reducible refine' ishl_one ?k3 ?k4 ?_); (case k3 => bits_by_make); (case k4 => first | decide | omega)) | (with_reducible refine shr_one ?_) | ((with_reducible refine shr_any ?k1 ?_); (case k1 => first | assumption | omega)) | (with_reducible refine ishr_one ?_) | (with_reducible refine and_one ?_) | (with_reducible refine and_mask ?_) | ((with_reducible refine or_shifted ?k1 ?k2 ?k3 ?_); (case k1 => assumption); (case k2 => assumption); (case k3 => assumption)) | walk1) | (leave1; walk_say "STEP leave1"; try dsimp only)) | fail "no step")
  · rename News _ _ _ _ => N'
    obtain ⟨rfl, rfl⟩ := hnz (by assumption)
    obtain ⟨g5, g6, g7⟩ := unpad g4 f2 f3
    exact Ends.intro (by assumption) (led_sub N' (fun p hp => .tail _ (.tail _ (.tail _ hp)))) ⟨_, _, _, _, _, rfl, rfl, fun p hp => Nat.lt_trans (hl9 p (.tail _ hp)) (by omega), g5, g6, g7⟩
  · rename News _ _ _ _ => N'
    obtain ⟨rfl, rfl⟩ := hz (by assumption)
    exact Ends.intro (by assumption) (led_sub N' (fun p hp => .tail _ (.tail _ (.tail _ hp)))) ⟨_, _, _, _, _, rfl, rfl, fun p hp => Nat.lt_trans (hl9 p (.tail _ hp)) (by omega), g4, f2, f3⟩
theorem div2_ok (w : World) : ∀ (k : Nat) (a b n : Int), Pre2 a b n → n ≤ 2000 * 2 ^ k → ∀ (news : Led) (ta tb tn : Tok),
    CallOk PySem.Challenge.rw_nb0143_02.row.prog w (Mine.hd.heap_39 w.params) 21 [.int a ta, .int b tb, .int n tn] (2 * k + 2) (6 * k + 8) news (DivPost a b news) := by
  k_fill
  intro k
  induction k with
  | zero =>
    intro a b n hp hn news ta tb tn
    refine callOk_of_body (dep := 1) (uni := 5) [(Str.ofString "a", _), (Str.ofString "b", _), (Str.ofString "n", _)] rfl rfl (fun _ => BindsTo.of_eq rfl) (locs rfl) ?_ rfl rfl rfl (by decide)
    intro p loose mean mg mb dp un gd outer A₀ base g L s B F X N hlt T hd hu
    have hb0 := hp.bne
    have hpy := hp.py
    have hbits : (Builtin.Int.intBits a : Int) - n ≤ 4000 := hp.small hn
    repeat' (first | (first | ((with_reducible show wpAny _ _ (call (Value.builtin _) [Value.int _ _, Value.int _ _]) _ _ _); refine divmod_N (by assumption) (by assumption) (by assumption) ?_ (Or.inl (by assumption)); intro _ _ _) | ((with_reducible refine shl_one ?k1 ?k2 ?_); (case k1 => first | assumption | omega); (case k2 => first | assumption | omega)) | ((with_reducible refine' shl_any ?k1 ?k2 ?k3 ?k4 ?_); (case k1 => first | assumption | omega); (case k2 => first | assumption | omega); (case k3 => bits_by_make); (case k4 => first | decide | omega)) | ((with_reducible refine' ishl_one ?k3 ?k4 ?_); (case k3 => bits_by_make); (case k4 => first | decide | omega)) | (with_reducible refine shr_one ?_) | ((with_reducible refine shr_any ?k1 ?_); (case k1 => first | assumption | omega)) | (with_reducible refine ishr_one ?_) | (with_reducible refine and_one ?_) | (with_reducible refine and_mask ?_) | ((with_reducible refine or_shifted ?k1 ?k2 ?k3 ?_); (case k1 => assumption); (case k2 => assumption); (case k3 => assumption)) | (k_unfold; (try dsimp only)) | walk1 | (dsimp only; first | ((with_reducible show wpAny _ _ (call (Value.builtin _) [Value.int _ _, Value.int _ _]) _ _ _); refine divmod_N (by assumption) (by assumption) (by assumption) ?_ (Or.inl (by assumption)); intro _ _ _) | ((with_reducible refine shl_one ?k1 ?k2 ?_); (case k1 => first | assumption | omega); (case k2 => first | assumption | omega)) | ((with_reducible refine' shl_any ?k1 ?k2 ?k3 ?k4 ?_); (case k1 => first | assumption | omega); (case k2 => first | assumption | omega); (case k3 => bits_by_make); (case k4 => first | decide | omega)) | ((with_reducible refine' ishl_one ?k3 ?k4 ?_); (case k3 => bits_by_make); (case k4 => first | decide | omega)) | (with_reducible refine shr_one ?_) | ((with_reducible refine shr_any ?k1 ?_); (case k1 => first | assumption | omega)) | (with_reducible refine ishr_one ?_) | (with_reducible refine and_one ?_) | (with_reducible refine and_mask ?_) | ((with_reducible refine or_shifted ?k1 ?k2 ?k3 ?_); (case k1 => assumption); (case k2 => assumption); (case k3 => assumption)) | walk1) | (leave1; walk_say "STEP leave1"; try dsimp only)) | fail "no step")
    all_goals (try dsimp only)
    exact Ends.intro (by assumption) (by assumption) (divPost_div hp fun p hp => Heap.lt_size (N p hp).1)
  | succ k ih =>
    intro a b n hp hn news ta tb tn
    refine callOk_of_body (dep := 2 * k + 3) (uni := 6 * k + 11) [(Str.ofString "a", _), (Str.ofString "b", _), (Str.ofString "n", _)] rfl rfl (fun _ => BindsTo.of_eq rfl) (locs rfl) ?_ rfl rfl rfl (by decide)
    intro p loose mean mg mb dp un gd outer A₀ base g L s B F X N hlt T hd hu
    have hb0 := hp.bne
    have hpy := hp.py
    have n0 := hp.n0
    have n1 := hp.n1
    have h2n := hp.twice
    obtain ⟨hba, hbb⟩ := hp.bits
    have hk : (2000 : Int) * 2 ^ (k + 1) = 2 * (2000 * 2 ^ k) := by rw [Int.pow_succ]; omega
    rw [hk] at hn
    repeat' (first | ((fail_if_success (with_reducible show wpAny _ _ (call (Value.ref _) _) _ _ _)); (fail_if_success (with_reducible show wpAny _ _ (execs [_, _, _, _, _, _, _] _) _ _ _)); first | ((with_reducible show wpAny _ _ (call (Value.builtin _) [Value.int _ _, Value.int _ _]) _ _ _); refine divmod_N (by assumption) (by assumption) (by assumption) ?_ (Or.inl (by assumption)); intro _ _ _) | ((with_reducible refine shl_one ?k1 ?k2 ?_); (case k1 => first | assumption | omega); (case k2 => first | assumption | omega)) | ((with_reducible refine' shl_any ?k1 ?k2 ?k3 ?k4 ?_); (case k1 => first | assumption | omega); (case k2 => first | assumption | omega); (case k3 => bits_by_make); (case k4 => first | decide | omega)) | ((with_reducible refine' ishl_one ?k3 ?k4 ?_); (case k3 => bits_by_make); (case k4 => first | decide | omega)) | (with_reducible refine shr_one ?_) | ((with_reducible refine shr_any ?k1 ?_); (case k1 => first | assumption | omega)) | (with_reducible refine ishr_one ?_) | (with_reducible refine and_one ?_) | (with_reducible refine and_mask ?_) | ((with_reducible refine or_shifted ?k1 ?k2 ?k3 ?_); (case k1 => assumption); (case k2 => assumption); (case k3 => assumption)) | (k_unfold; (try dsimp only)) | walk1 | (dsimp only; first | ((with_reducible show wpAny _ _ (call (Value.builtin _) [Value.int _ _, Value.int _ _]) _ _ _); refine divmod_N (by assumption) (by assumption) (by assumption) ?_ (Or.inl (by assumption)); intro _ _ _) | ((with_reducible refine shl_one ?k1 ?k2 ?_); (case k1 => first | assumption | omega); (case k2 => first | assumption | omega)) | ((with_reducible refine' shl_any ?k1 ?k2 ?k3 ?k4 ?_); (case k1 => first | assumption | omega); (case k2 => first | assumption | omega); (case k3 => bits_by_make); (case k4 => first | decide | omega)) | ((with_reducible refine' ishl_one ?k3 ?k4 ?_); (case k3 => bits_by_make); (case k4 => first | decide | omega)) | (with_reducible refine shr_one ?_) | ((with_reducible refine shr_any ?k1 ?_); (case k1 => first | assumption | omega)) | (with_reducible refine ishr_one ?_) | (with_reducible refine and_one ?_) | (with_reducible refine and_mask ?_) | ((with_reducible refine or_shifted ?k1 ?k2 ?k3 ?_); (case k1 => assumption); (case k2 => assumption); (case k3 => assumption)) | walk1) | (leave1; walk_say "STEP leave1"; try dsimp only)) | fail "no step")
    · exact Ends.intro (by assumption) (by assumption) (divPost_div hp fun p hp => Heap.lt_size (N p hp).1)
    · have ho : n % 2 ≠ 0 := by assumption
      rename Fr _ _ _ _ => F1; rename News _ _ _ _ => N1
      exact div2_tail w rfl B X T hd hu ih (hp.pad ho) (by omega) (by omega) (by omega) (fun h => absurd h ho) (fun _ => ⟨rfl, rfl⟩) (fr_kst F1 (by kst_all)) N1
    · have ho : n % 2 = 0 := by assumption
      rename Fr _ _ _ _ => F1; rename News _ _ _ _ => N1
      exact div2_tail w rfl B X T hd hu ih hp ho (by omega) (by omega) (fun _ => ⟨rfl, rfl⟩) (fun h => absurd ho h) (fr_kst F1 (by kst_all)) N1
end
end Mine

end
section
set_option maxRecDepth 100000
set_option maxHeartbeats 8000000
namespace Mine
section
local macro_rules | `(tactic| bits_by_make) => `(tactic| with_reducible assumption)
local macro_rules | `(tactic| bits_by_make) => `(tactic| ((with_reducible apply bits_ediv_pow); bits_by_make))
local macro_rules | `(tactic| k_all) => `(tactic| with_reducible assumption)
local macro_rules | `(tactic| k_mem) => `(tactic| first | with_reducible assumption | with_reducible exact List.mem_cons_self | (with_reducible refine List.mem_cons_of_mem _ ?_; with_reducible assumption))
theorem inner_ok (w : World) {nm : Str} {params : Arguments} {body : List Stmt} {scope : Scope} (hdef : nested (Mine.hd.heap_39 w.params) 35 1 = some (nm, params, body, scope))
    {n : Int} {tn : Tok} (hn : 0 < n) (hn2 : n ≤ 10000) {lst ca ci cn f c : Addr} {oa oi on oc : Obj} {cvs : Array Value} {qual : Str} {tq : Tok} {doc pm ctv : Value} {REST : Led}
    (hf : (f, fnMade nm qual params body scope [(Str.ofString "n", cn), (Str.ofString "inner", ci), (Str.ofString "a_digits", ca)] doc pm c ctv) ∈ REST)
    (hc : (c, oc) ∈ REST) (hcd : oc.data = .fields cvs) (hcv : cvs[1]? = some (.str qual tq))
    (hca : (ca, oa) ∈ REST) (hoa : oa.data = .cell (some (.ref lst))) (hci : (ci, oi) ∈ REST) (hoi : oi.data = .cell (some (.ref f))) (hcn : (cn, on) ∈ REST) (hon : on.data = .cell (some (.int n tn)))
    (hl : ∀ p ∈ REST, p.1 ≠ lst) {len : Nat} (hm : n * (len : Int) ≤ 1000000) :
    ∀ (k : Nat) (x lo hi : Int) (tx tl th : Tok) (vs : List Value) (ns : List Int) (e : Nat), IntsAre vs ns → ns.length = len → In2 n x lo hi len k → Builtin.Int.intBits x ≤ 1000000 →
      CallOk PySem.Challenge.rw_nb0143_02.row.prog w (Mine.hd.heap_39 w.params) f [.int x tx, .int lo tl, .int hi th] (k + 2) (3 * k + 8) ((lst, listOf vs.toArray e) :: REST)
        (fun r news' => r = .none ∧ ∃ vs', news' = (lst, listOf vs'.toArray e) :: REST ∧ IntsAre vs' (laid n.toNat x ns lo hi)) := by
  k_fill
  have hdef' : nested (Mine.hd.heap_39 w.params) 35 1 = some _ := rfl
  rw [hdef'] at hdef
  cases hdef
  clear hdef'
  have hlen : (len : Int) ≤ 1000000 := by
    have : (len : Int) * 1 ≤ len * n := Int.mul_le_mul_of_nonneg_left (by omega) (by omega)
    rw [Int.mul_comm _ n] at this; omega
  intro k
  induction k with
  | zero =>
    intro x lo hi tx tl th vs ns e hi9 hlen9 hI hbx
    refine callOk_of_nest (dep := 1) (uni := 5) [(Str.ofString "x", _), (Str.ofString "L", _), (Str.ofString "R", _)] (.tail _ hf) (.tail _ hc) hcd hcv (fun _ => BindsTo.of_eq rfl) (locs rfl) ?_ rfl rfl rfl (by decide)
    intro p loose mean mg mb dp un gd outer A₀ base g L s B F X N hlt T hd hu
    obtain ⟨h0, h1, h2, h3, h4, h5⟩ := id hI
    have hC : CodeHd g 34 30 := codeHd_of_K X (by kernel_rfl)
    have hone : lo + 1 = hi := by omega
    · have hx1 : x < 2 ^ n.toNat := by rw [show (hi - lo).toNat = 1 by omega, Nat.mul_one] at h5; exact h5
      repeat' (first | ((fail_if_success (with_reducible show wpAny _ _ (call (Value.ref _) _) _ _ _)); first | ((with_reducible show wpAny _ _ (eval (Expr.Name _ _ _) _) _ _ _); kc_free; (with_reducible refine' nameX_F ?N ?c ?m ?d ?_ ?a ?b); (case a => rfl); (case b => rfl); (case N => with_reducible assumption); (case c => rfl); (case m => (with_reducible refine List.mem_cons_of_mem _ ?_; with_reducible assumption)); (case d => with_reducible assumption)) | ((with_reducible refine shl_one ?k1 ?k2 ?_); (case k1 => first | assumption | omega); (case k2 => first | assumption | omega)) | ((with_reducible refine' shl_any ?k1 ?k2 ?k3 ?k4 ?_); (case k1 => first | assumption | omega); (case k2 => first | assumption | omega); (case k3 => bits_by_make); (case k4 => first | decide | omega)) | (with_reducible refine shr_one ?_) | ((with_reducible refine shr_any ?k1 ?_); (case k1 => first | assumption | omega)) | ((with_reducible refine xor_rest ?k1 ?_); (case k1 => assumption)) | (k_unfold; (try dsimp only)) | walk1 | (dsimp only; first | ((with_reducible show wpAny _ _ (eval (Expr.Name _ _ _) _) _ _ _); kc_free; (with_reducible refine' nameX_F ?N ?c ?m ?d ?_ ?a ?b); (case a => rfl); (case b => rfl); (case N => with_reducible assumption); (case c => rfl); (case m => (with_reducible refine List.mem_cons_of_mem _ ?_; with_reducible assumption)); (case d => with_reducible assumption)) | ((with_reducible refine shl_one ?k1 ?k2 ?_); (case k1 => first | assumption | omega); (case k2 => first | assumption | omega)) | ((with_reducible refine' shl_any ?k1 ?k2 ?k3 ?k4 ?_); (case k1 => first | assumption | omega); (case k2 => first | assumption | omega); (case k3 => bits_by_make); (case k4 => first | decide | omega)) | (with_reducible refine shr_one ?_) | ((with_reducible refine shr_any ?k1 ?_); (case k1 => first | assumption | omega)) | ((with_reducible refine xor_rest ?k1 ?_); (case k1 => assumption)) | walk1) | (leave1; walk_say "STEP leave1"; try dsimp only)) | fail "no step")
      · exact Ends.intro (by assumption) (by assumption) ⟨rfl, _, rfl, by rw [← laid_one h0 hone (by omega) h4 hx1]; assumption⟩
      · exfalso; omega
  | succ k ih =>
    intro x lo hi tx tl th vs ns e hi9 hlen9 hI hbx
    refine callOk_of_nest (dep := k + 2) (uni := 3 * k + 8) [(Str.ofString "x", _), (Str.ofString "L", _), (Str.ofString "R", _)] (.tail _ hf) (.tail _ hc) hcd hcv (fun _ => BindsTo.of_eq rfl) (locs rfl) ?_ rfl rfl rfl (by decide)
    intro p loose mean mg mb dp un gd outer A₀ base g L s B F X N hlt T hd hu
    obtain ⟨h0, h1, h2, h3, h4, h5⟩ := id hI
    have hC : CodeHd g 34 30 := codeHd_of_K X (by kernel_rfl)
    by_cases hone : lo + 1 = hi
    · have hx1 : x < 2 ^ n.toNat := by rw [show (hi - lo).toNat = 1 by omega, Nat.mul_one] at h5; exact h5
      repeat' (first | ((fail_if_success (with_reducible show wpAny _ _ (call (Value.ref _) _) _ _ _)); first | ((with_reducible show wpAny _ _ (eval (Expr.Name _ _ _) _) _ _ _); kc_free; (with_reducible refine' nameX_F ?N ?c ?m ?d ?_ ?a ?b); (case a => rfl); (case b => rfl); (case N => with_reducible assumption); (case c => rfl); (case m => (with_reducible refine List.mem_cons_of_mem _ ?_; with_reducible assumption)); (case d => with_reducible assumption)) | ((with_reducible refine shl_one ?k1 ?k2 ?_); (case k1 => first | assumption | omega); (case k2 => first | assumption | omega)) | ((with_reducible refine' shl_any ?k1 ?k2 ?k3 ?k4 ?_); (case k1 => first | assumption | omega); (case k2 => first | assumption | omega); (case k3 => bits_by_make); (case k4 => first | decide | omega)) | (with_reducible refine shr_one ?_) | ((with_reducible refine shr_any ?k1 ?_); (case k1 => first | assumption | omega)) | ((with_reducible refine xor_rest ?k1 ?_); (case k1 => assumption)) | (k_unfold; (try dsimp only)) | walk1 | (dsimp only; first | ((with_reducible show wpAny _ _ (eval (Expr.Name _ _ _) _) _ _ _); kc_free; (with_reducible refine' nameX_F ?N ?c ?m ?d ?_ ?a ?b); (case a => rfl); (case b => rfl); (case N => with_reducible assumption); (case c => rfl); (case m => (with_reducible refine List.mem_cons_of_mem _ ?_; with_reducible assumption)); (case d => with_reducible assumption)) | ((with_reducible refine shl_one ?k1 ?k2 ?_); (case k1 => first | assumption | omega); (case k2 => first | assumption | omega)) | ((with_reducible refine' shl_any ?k1 ?k2 ?k3 ?k4 ?_); (case k1 => first | assumption | omega); (case k2 => first | assumption | omega); (case k3 => bits_by_make); (case k4 => first | decide | omega)) | (with_reducible refine shr_one ?_) | ((with_reducible refine shr_any ?k1 ?_); (case k1 => first | assumption | omega)) | ((with_reducible refine xor_rest ?k1 ?_); (case k1 => assumption)) | walk1) | (leave1; walk_say "STEP leave1"; try dsimp only)) | fail "no step")
      · exact Ends.intro (by assumption) (by assumption) ⟨rfl, _, rfl, by rw [← laid_one h0 hone (by omega) h4 hx1]; assumption⟩
      · exfalso; omega
    · obtain ⟨b1, b2, c1, a1, a2, I1, I2⟩ := hI.halves hn hone hm
      repeat' (first | ((fail_if_success (with_reducible show wpAny _ _ (call (Value.ref _) _) _ _ _)); first | ((with_reducible show wpAny _ _ (eval (Expr.Name _ _ _) _) _ _ _); kc_free; (with_reducible refine' nameX_F ?N ?c ?m ?d ?_ ?a ?b); (case a => rfl); (case b => rfl); (case N => with_reducible assumption); (case c => rfl); (case m => (with_reducible refine List.mem_cons_of_mem _ ?_; with_reducible assumption)); (case d => with_reducible assumption)) | ((with_reducible refine shl_one ?k1 ?k2 ?_); (case k1 => first | assumption | omega); (case k2 => first | assumption | omega)) | ((with_reducible refine' shl_any ?k1 ?k2 ?k3 ?k4 ?_); (case k1 => first | assumption | omega); (case k2 => first | assumption | omega); (case k3 => bits_by_make); (case k4 => first | decide | omega)) | (with_reducible refine shr_one ?_) | ((with_reducible refine shr_any ?k1 ?_); (case k1 => first | assumption | omega)) | ((with_reducible refine xor_rest ?k1 ?_); (case k1 => assumption)) | (k_unfold; (try dsimp only)) | walk1 | (dsimp only; first | ((with_reducible show wpAny _ _ (eval (Expr.Name _ _ _) _) _ _ _); kc_free; (with_reducible refine' nameX_F ?N ?c ?m ?d ?_ ?a ?b); (case a => rfl); (case b => rfl); (case N => with_reducible assumption); (case c => rfl); (case m => (with_reducible refine List.mem_cons_of_mem _ ?_; with_reducible assumption)); (case d => with_reducible assumption)) | ((with_reducible refine shl_one ?k1 ?k2 ?_); (case k1 => first | assumption | omega); (case k2 => first | assumption | omega)) | ((with_reducible refine' shl_any ?k1 ?k2 ?k3 ?k4 ?_); (case k1 => first | assumption | omega); (case k2 => first | assumption | omega); (case k3 => bits_by_make); (case k4 => first | decide | omega)) | (with_reducible refine shr_one ?_) | ((with_reducible refine shr_any ?k1 ?_); (case k1 => first | assumption | omega)) | ((with_reducible refine xor_rest ?k1 ?_); (case k1 => assumption)) | walk1) | (leave1; walk_say "STEP leave1"; try dsimp only)) | fail "no step")
      · exfalso; omega
      · refine CallOk.use (ih _ lo _ _ _ _ vs ns e hi9 hlen9 I1 (bits_emod_le h4 hbx)) B (by assumption) X (by assumption) T rfl hd hu ?_
        rintro r9 news9 h9 tk9 F9 N9 ⟨rfl, vs', rfl, hi2⟩
        repeat' (first | ((fail_if_success (with_reducible show wpAny _ _ (call (Value.ref _) _) _ _ _)); first | ((with_reducible show wpAny _ _ (eval (Expr.Name _ _ _) _) _ _ _); kc_free; (with_reducible refine' nameX_F ?N ?c ?m ?d ?_ ?a ?b); (case a => rfl); (case b => rfl); (case N => with_reducible assumption); (case c => rfl); (case m => (with_reducible refine List.mem_cons_of_mem _ ?_; with_reducible assumption)); (case d => with_reducible assumption)) | ((with_reducible refine shl_one ?k1 ?k2 ?_); (case k1 => first | assumption | omega); (case k2 => first | assumption | omega)) | ((with_reducible refine' shl_any ?k1 ?k2 ?k3 ?k4 ?_); (case k1 => first | assumption | omega); (case k2 => first | assumption | omega); (case k3 => bits_by_make); (case k4 => first | decide | omega)) | (with_reducible refine shr_one ?_) | ((with_reducible refine shr_any ?k1 ?_); (case k1 => first | assumption | omega)) | ((with_reducible refine xor_rest ?k1 ?_); (case k1 => assumption)) | (k_unfold; (try dsimp only)) | walk1 | (dsimp only; first | ((with_reducible show wpAny _ _ (eval (Expr.Name _ _ _) _) _ _ _); kc_free; (with_reducible refine' nameX_F ?N ?c ?m ?d ?_ ?a ?b); (case a => rfl); (case b => rfl); (case N => with_reducible assumption); (case c => rfl); (case m => (with_reducible refine List.mem_cons_of_mem _ ?_; with_reducible assumption)); (case d => with_reducible assumption)) | ((with_reducible refine shl_one ?k1 ?k2 ?_); (case k1 => first | assumption | omega); (case k2 => first | assumption | omega)) | ((with_reducible refine' shl_any ?k1 ?k2 ?k3 ?k4 ?_); (case k1 => first | assumption | omega); (case k2 => first | assumption | omega); (case k3 => bits_by_make); (case k4 => first | decide | omega)) | (with_reducible refine shr_one ?_) | ((with_reducible refine shr_any ?k1 ?_); (case k1 => first | assumption | omega)) | ((with_reducible refine xor_rest ?k1 ?_); (case k1 => assumption)) | walk1) | (leave1; walk_say "STEP leave1"; try dsimp only)) | fail "no step")
        refine CallOk.use (ih _ _ hi _ _ _ vs' _ e hi2 ((laid_len h0 a1 (by omega)).trans hlen9) I2 (bits_ediv_pow hbx)) B (by assumption) X (by assumption) T rfl hd hu ?_
        rintro r8 news8 h8 tk8 F8 N8 ⟨rfl, vs'', rfl, hi3⟩
        repeat' (first | ((fail_if_success (with_reducible show wpAny _ _ (call (Value.ref _) _) _ _ _)); first | ((with_reducible show wpAny _ _ (eval (Expr.Name _ _ _) _) _ _ _); kc_free; (with_reducible refine' nameX_F ?N ?c ?m ?d ?_ ?a ?b); (case a => rfl); (case b => rfl); (case N => with_reducible assumption); (case c => rfl); (case m => (with_reducible refine List.mem_cons_of_mem _ ?_; with_reducible assumption)); (case d => with_reducible assumption)) | ((with_reducible refine shl_one ?k1 ?k2 ?_); (case k1 => first | assumption | omega); (case k2 => first | assumption | omega)) | ((with_reducible refine' shl_any ?k1 ?k2 ?k3 ?k4 ?_); (case k1 => first | assumption | omega); (case k2 => first | assumption | omega); (case k3 => bits_by_make); (case k4 => first | decide | omega)) | (with_reducible refine shr_one ?_) | ((with_reducible refine shr_any ?k1 ?_); (case k1 => first | assumption | omega)) | ((with_reducible refine xor_rest ?k1 ?_); (case k1 => assumption)) | (k_unfold; (try dsimp only)) | walk1 | (dsimp only; first | ((with_reducible show wpAny _ _ (eval (Expr.Name _ _ _) _) _ _ _); kc_free; (with_reducible refine' nameX_F ?N ?c ?m ?d ?_ ?a ?b); (case a => rfl); (case b => rfl); (case N => with_reducible assumption); (case c => rfl); (case m => (with_reducible refine List.mem_cons_of_mem _ ?_; with_reducible assumption)); (case d => with_reducible assumption)) | ((with_reducible refine shl_one ?k1 ?k2 ?_); (case k1 => first | assumption | omega); (case k2 => first | assumption | omega)) | ((with_reducible refine' shl_any ?k1 ?k2 ?k3 ?k4 ?_); (case k1 => first | assumption | omega); (case k2 => first | assumption | omega); (case k3 => bits_by_make); (case k4 => first | decide | omega)) | (with_reducible refine shr_one ?_) | ((with_reducible refine shr_any ?k1 ?_); (case k1 => first | assumption | omega)) | ((with_reducible refine xor_rest ?k1 ?_); (case k1 => assumption)) | walk1) | (leave1; walk_say "STEP leave1"; try dsimp only)) | fail "no step")
        exact Ends.intro (by assumption) (by assumption) ⟨rfl, _, rfl, by rw [laid_two h0 a1 a2 (by omega) c1] at hi3; exact hi3⟩
end
end Mine

end
section
set_option maxRecDepth 100000
set_option maxHeartbeats 8000000
namespace Mine
abbrev pos62 : Pos := ⟨32, 4, 41, 28⟩
abbrev q62 : Str := (Str.ofString "_int2digits" ++ Str.ofString ".<locals>.") ++ Str.ofString "inner"
section
local macro_rules | `(tactic| k_all) => `(tactic| first | with_reducible assumption | (refine' allNe ?ka ?kb; (case ka => with_reducible assumption); (case kb => omega)))
theorem int2digits_ok (w : World) (a n : Int) (ta tn : Tok) (tb news : Led) (ha : 0 ≤ a) (hn : 0 < n) (hn2 : n ≤ 10000) (hb : Builtin.Int.intBits a ≤ 100000) (hc : (Builtin.Int.intBits a : Int) ≤ 1000 * n)
    (hT : Tab 30 pos62 q62 tb) (hne : ∀ p ∈ news, p.1 ≠ 30) :
    CallOk PySem.Challenge.rw_nb0143_02.row.prog w (Mine.hd.heap_39 w.params) 35 [.int a ta, .int n tn] 20 200 (tb ++ news)
      (DigPost 30 pos62 q62 n a tb news) := by
  k_fill
  refine callOk_of_bodyC (dep := 19) (uni := 197) [(Str.ofString "a", _), (Str.ofString "n", _)] rfl rfl (fun _ => BindsTo.of_eq rfl) rfl (by decide +kernel) ?_ rfl rfl rfl
  intro p loose mean mg mb dp un gd outer A₀ base g L s cells B F X N Y hlt T hd hu
  obtain ⟨o1, o2, o3, rfl, d1, d2, d3⟩ := CellsAre.three Y
  clear Y
  replace d1 : o1.data = .cell none := d1
  replace d2 : o2.data = .cell none := d2
  replace d3 : o3.data = .cell (some (.int n tn)) := d3
  replace F : Fr g L s.heap (fun y => if y = Str.ofString "a" then some (.int a ta) else none) := F
  simp only [List.cons_append, List.nil_append] at N
  have hC : CodeHd g 34 30 := codeHd_of_K X (by kernel_rfl)
  obtain ⟨hq0, hq1⟩ := cnt_bounds hn hc
  have hltn : ∀ p ∈ news, p.1 < L := fun p hp => hlt p (List.mem_append_right _ hp)
  have hfd := Int.fdiv_eq_ediv_of_nonneg ((Builtin.Int.intBits a : Int) + n - 1) (Int.le_of_lt hn)
  cases hT with
  | cold =>
    have h62 := ltN (hlt (30, _) (List.Mem.head _))
    clear hlt
    simp only [List.cons_append, List.nil_append] at N
    repeat' (first | ((fail_if_success (with_reducible show wpAny _ _ (call (Value.ref _) _) _ _ _)); first | (k_unfold; (try dsimp only)) | walk1 | (dsimp only; walk1) | (leave1; walk_say "STEP leave1"; try dsimp only)) | fail "no step")
    · rename News _ _ _ _ => N'
      rename IntsAre (List.flatten _) _ => i1
      rename List.length (List.flatten _) = _ => e1
      rename (0 ≤ _ → _ = _) => e3
      have hcn := e3 hq0
      rw [show ((0 + 1 : Nat) : Int) = 1 from rfl, Int.one_mul, hfd] at hcn
      have ha0 : a ≠ 0 := by assumption
      obtain ⟨hm, hI⟩ := cnt_facts ha hn hn2 hb ha0 hcn (by rw [hcn, ← hfd]; exact hq1)
      have N2 := led_pull2 N'
      refine' CallOk.use (inner_ok w rfl hn hn2 ?hf ?hc ?hcd ?hcv ?hca ?hoa ?hci ?hoi ?hcn ?hon ?hl hm 10 a 0 _ _ _ _ _ _ 0 i1 e1 hI (Nat.le_trans hb (by decide))) B ?F X N2 T rfl ?d ?u ?_
      case hf => exact List.Mem.head _
      case F => assumption
      case hc => exact .tail _ (List.Mem.head _)
      case hca => k_mem
      case hci => k_mem
      case hcn => k_mem
      case hcd => assumption
      case hcv => assumption
      case hoa => assumption
      case hoi => assumption
      case hon => assumption
      case hl => first | k_all | fail "k"
      case d => omega
      case u => omega
      rintro r9 news9 h9 tk9 F9 N9 ⟨rfl, vs', rfl, hi2⟩
      rw [laid_all e1] at hi2
      repeat' (first | ((fail_if_success (with_reducible show wpAny _ _ (call (Value.ref _) _) _ _ _)); first | (k_unfold; (try dsimp only)) | walk1 | (dsimp only; walk1) | (leave1; walk_say "STEP leave1"; try dsimp only)) | fail "no step")
      refine Ends.intro (by assumption) (led_of (by assumption) sub_cold) ⟨_, vs', _, rfl, .warm (by assumption) (by assumption) (by refine neN ?_; omega), Fresher.cold (by omega) hltn (by omega), rfl, (by
        simp only [List.cons_append, List.nil_append]
        first | k_all | fail "k"), (by
        simp only [List.cons_append, List.nil_append]
        refine List.forall_mem_cons.mpr ⟨ltN (by omega), allLt' hltn (by omega)⟩), ?_⟩
      unfold digitsOf
      rw [← hcn, Int.toNat_natCast]
      exact hi2
    · rename News _ _ _ _ => N'
      rename IntsAre (List.flatten _) _ => i1
      have ha0 : a = 0 := by assumption
      subst ha0
      dsimp only
      refine Ends.intro (by assumption) (led_of N' sub_cold0) ⟨_, _, _, rfl, .warm (by assumption) (by assumption) (by refine neN ?_; omega), Fresher.cold (by omega) hltn (by omega), rfl, (by
        simp only [List.cons_append, List.nil_append]
        first | k_all | fail "k"), (by
        simp only [List.cons_append, List.nil_append]
        refine List.forall_mem_cons.mpr ⟨ltN (by omega), allLt' hltn (by omega)⟩), ?_⟩
      rw [digits_zero hn]
      simp only [hfd, cnt_zero hn] at i1 ⊢
      exact i1
  | @warm c oc cvs tq hcd hcv hcP =>
    have h62 := ltN (hlt (30, _) (List.Mem.head _))
    have hcL := ltN (hlt (c, _) (.tail _ (List.Mem.head _)))
    replace hcP := neN hcP
    clear hlt
    simp only [List.cons_append, List.nil_append] at N
    repeat' (first | ((fail_if_success (with_reducible show wpAny _ _ (call (Value.ref _) _) _ _ _)); first | (k_unfold; (try dsimp only)) | walk1 | (dsimp only; walk1) | (leave1; walk_say "STEP leave1"; try dsimp only)) | fail "no step")
    · rename News _ _ _ _ => N'
      rename IntsAre (List.flatten _) _ => i1
      rename List.length (List.flatten _) = _ => e1
      rename (0 ≤ _ → _ = _) => e3
      have hcn := e3 hq0
      rw [show ((0 + 1 : Nat) : Int) = 1 from rfl, Int.one_mul, hfd] at hcn
      have ha0 : a ≠ 0 := by assumption
      obtain ⟨hm, hI⟩ := cnt_facts ha hn hn2 hb ha0 hcn (by rw [hcn, ← hfd]; exact hq1)
      have N2 := led_pull1 N'
      refine' CallOk.use (inner_ok w rfl hn hn2 ?hf ?hc ?hcd ?hcv ?hca ?hoa ?hci ?hoi ?hcn ?hon ?hl hm 10 a 0 _ _ _ _ _ _ 0 i1 e1 hI (Nat.le_trans hb (by decide))) B ?F X N2 T rfl ?d ?u ?_
      case hf => exact List.Mem.head _
      case F => assumption
      case hc => k_mem
      case hca => k_mem
      case hci => k_mem
      case hcn => k_mem
      case hcd => assumption
      case hcv => assumption
      case hoa => assumption
      case hoi => assumption
      case hon => assumption
      case hl => first | k_all | fail "k"
      case d => omega
      case u => omega
      rintro r9 news9 h9 tk9 F9 N9 ⟨rfl, vs', rfl, hi2⟩
      rw [laid_all e1] at hi2
      repeat' (first | ((fail_if_success (with_reducible show wpAny _ _ (call (Value.ref _) _) _ _ _)); first | (k_unfold; (try dsimp only)) | walk1 | (dsimp only; walk1) | (leave1; walk_say "STEP leave1"; try dsimp only)) | fail "no step")
      refine Ends.intro (by assumption) (led_of (by assumption) sub_warm) ⟨_, vs', _, rfl, .warm hcd hcv hcP, .refl, rfl, (by
        simp only [List.cons_append, List.nil_append]
        first | k_all | fail "k"), (by
        simp only [List.cons_append, List.nil_append]
        refine List.forall_mem_cons.mpr ⟨ltN (by omega), List.forall_mem_cons.mpr ⟨ltN (by omega), allLt' hltn (by omega)⟩⟩), ?_⟩
      unfold digitsOf
      rw [← hcn, Int.toNat_natCast]
      exact hi2
    · rename News _ _ _ _ => N'
      rename IntsAre (List.flatten _) _ => i1
      have ha0 : a = 0 := by assumption
      subst ha0
      dsimp only
      refine Ends.intro (by assumption) (led_of N' sub_warm0) ⟨_, _, _, rfl, .warm hcd hcv hcP, .refl, rfl, (by
        simp only [List.cons_append, List.nil_append]
        first | k_all | fail "k"), (by
        simp only [List.cons_append, List.nil_append]
        refine List.forall_mem_cons.mpr ⟨ltN (by omega), List.forall_mem_cons.mpr ⟨ltN (by omega), allLt' hltn (by omega)⟩⟩), ?_⟩
      rw [digits_zero hn]
      simp only [hfd, cnt_zero hn] at i1 ⊢
      exact i1
end
end Mine

end
section
set_option maxRecDepth 100000
set_option maxHeartbeats 8000000
namespace Mine
section
local macro_rules | `(tactic| bits_by_make) => `(tactic| with_reducible assumption)
local macro_rules | `(tactic| k_all) => `(tactic| with_reducible assumption)
local macro_rules | `(tactic| k_mem) => `(tactic| with_reducible assumption)
theorem innerD_ok (w : World) {nm : Str} {params : Arguments} {body : List Stmt} {scope : Scope} (hdef : nested (Mine.hd.heap_39 w.params) 42 0 = some (nm, params, body, scope))
    {n : Int} {tn : Tok} (hn : 0 < n) (hn2 : n ≤ 10000) {lst ca ci cn f c : Addr} {oa oi on oc : Obj} {cvs : Array Value} {qual : Str} {tq : Tok} {doc pm ctv : Value} {REST : Led}
    (hf : (f, fnMade nm qual params body scope [(Str.ofString "n", cn), (Str.ofString "inner", ci), (Str.ofString "digits", ca)] doc pm c ctv) ∈ REST)
    (hc : (c, oc) ∈ REST) (hcd : oc.data = .fields cvs) (hcv : cvs[1]? = some (.str qual tq))
    (hca : (ca, oa) ∈ REST) (hoa : oa.data = .cell (some (.ref lst))) (hci : (ci, oi) ∈ REST) (hoi : oi.data = .cell (some (.ref f))) (hcn : (cn, on) ∈ REST) (hon : on.data = .cell (some (.int n tn)))
    {vs : List Value} {ns : List Int} {e : Nat} (hl : (lst, listOf vs.toArray e) ∈ REST) (hi9 : IntsAre vs ns) (hS : Small n.toNat ns) (hm : n * (ns.length : Int) ≤ 1000000) :
    ∀ (k : Nat) (lo hi : Int) (tl th : Tok), In1 n lo hi ns.length k →
      CallOk PySem.Challenge.rw_nb0143_02.row.prog w (Mine.hd.heap_39 w.params) f [.int lo tl, .int hi th] (k + 2) (3 * k + 8) REST
        (fun r news' => news' = REST ∧ ∃ t, r = .int (val n.toNat (sl ns lo hi)) t) := by
  k_fill
  have hdef' : nested (Mine.hd.heap_39 w.params) 42 0 = some _ := rfl
  rw [hdef'] at hdef
  cases hdef
  clear hdef'
  have hlen : (ns.length : Int) ≤ 1000000 := by
    have : (ns.length : Int) * 1 ≤ ns.length * n := Int.mul_le_mul_of_nonneg_left (by omega) (by omega)
    rw [Int.mul_comm _ n] at this; omega
  intro k
  induction k with
  | zero =>
    intro lo hi tl th hI
    refine callOk_of_nest (dep := 1) (uni := 5) [(Str.ofString "L", _), (Str.ofString "R", _)] hf hc hcd hcv (fun _ => BindsTo.of_eq rfl) (locs rfl) ?_ rfl rfl rfl (by decide)
    intro p loose mean mg mb dp un gd outer A₀ base g L s B F X N hlt T hd hu
    obtain ⟨h0, h1, h2, h3⟩ := id hI
    have hC : CodeHd g 41 37 := codeHd_of_K X (by kernel_rfl)
    have hone : lo + 1 = hi := by omega
    repeat' (first | ((fail_if_success (with_reducible show wpAny _ _ (call (Value.ref _) _) _ _ _)); first | ((with_reducible show wpAny _ _ (eval (Expr.Name _ _ _) _) _ _ _); kc_free; (with_reducible refine' nameX_F ?N ?c ?m ?d ?_ ?a ?b); (case a => rfl); (case b => rfl); (case N => with_reducible assumption); (case c => rfl); (case m => with_reducible assumption); (case d => with_reducible assumption)) | ((with_reducible refine shl_one ?k1 ?k2 ?_); (case k1 => first | assumption | omega); (case k2 => first | assumption | omega)) | ((with_reducible refine' shl_any ?k1 ?k2 ?k3 ?k4 ?_); (case k1 => first | assumption | omega); (case k2 => first | assumption | omega); (case k3 => bits_by_make); (case k4 => first | decide | omega)) | (with_reducible refine shr_one ?_) | ((with_reducible refine shr_any ?k1 ?_); (case k1 => first | assumption | omega)) | (k_unfold; (try dsimp only)) | walk1 | (dsimp only; first | ((with_reducible show wpAny _ _ (eval (Expr.Name _ _ _) _) _ _ _); kc_free; (with_reducible refine' nameX_F ?N ?c ?m ?d ?_ ?a ?b); (case a => rfl); (case b => rfl); (case N => with_reducible assumption); (case c => rfl); (case m => with_reducible assumption); (case d => with_reducible assumption)) | ((with_reducible refine shl_one ?k1 ?k2 ?_); (case k1 => first | assumption | omega); (case k2 => first | assumption | omega)) | ((with_reducible refine' shl_any ?k1 ?k2 ?k3 ?k4 ?_); (case k1 => first | assumption | omega); (case k2 => first | assumption | omega); (case k3 => bits_by_make); (case k4 => first | decide | omega)) | (with_reducible refine shr_one ?_) | ((with_reducible refine shr_any ?k1 ?_); (case k1 => first | assumption | omega)) | walk1) | (leave1; walk_say "STEP leave1"; try dsimp only)) | fail "no step")
    · refine Ends.intro (by assumption) (by assumption) ⟨rfl, _, by rw [sl_one h0 hone h2, val_one]⟩
    · exfalso; omega
  | succ k ih =>
    intro lo hi tl th hI
    refine callOk_of_nest (dep := k + 2) (uni := 3 * k + 8) [(Str.ofString "L", _), (Str.ofString "R", _)] hf hc hcd hcv (fun _ => BindsTo.of_eq rfl) (locs rfl) ?_ rfl rfl rfl (by decide)
    intro p loose mean mg mb dp un gd outer A₀ base g L s B F X N hlt T hd hu
    obtain ⟨h0, h1, h2, h3⟩ := id hI
    have hC : CodeHd g 41 37 := codeHd_of_K X (by kernel_rfl)
    by_cases hone : lo + 1 = hi
    · repeat' (first | ((fail_if_success (with_reducible show wpAny _ _ (call (Value.ref _) _) _ _ _)); first | ((with_reducible show wpAny _ _ (eval (Expr.Name _ _ _) _) _ _ _); kc_free; (with_reducible refine' nameX_F ?N ?c ?m ?d ?_ ?a ?b); (case a => rfl); (case b => rfl); (case N => with_reducible assumption); (case c => rfl); (case m => with_reducible assumption); (case d => with_reducible assumption)) | ((with_reducible refine shl_one ?k1 ?k2 ?_); (case k1 => first | assumption | omega); (case k2 => first | assumption | omega)) | ((with_reducible refine' shl_any ?k1 ?k2 ?k3 ?k4 ?_); (case k1 => first | assumption | omega); (case k2 => first | assumption | omega); (case k3 => bits_by_make); (case k4 => first | decide | omega)) | (with_reducible refine shr_one ?_) | ((with_reducible refine shr_any ?k1 ?_); (case k1 => first | assumption | omega)) | (k_unfold; (try dsimp only)) | walk1 | (dsimp only; first | ((with_reducible show wpAny _ _ (eval (Expr.Name _ _ _) _) _ _ _); kc_free; (with_reducible refine' nameX_F ?N ?c ?m ?d ?_ ?a ?b); (case a => rfl); (case b => rfl); (case N => with_reducible assumption); (case c => rfl); (case m => with_reducible assumption); (case d => with_reducible assumption)) | ((with_reducible refine shl_one ?k1 ?k2 ?_); (case k1 => first | assumption | omega); (case k2 => first | assumption | omega)) | ((with_reducible refine' shl_any ?k1 ?k2 ?k3 ?k4 ?_); (case k1 => first | assumption | omega); (case k2 => first | assumption | omega); (case k3 => bits_by_make); (case k4 => first | decide | omega)) | (with_reducible refine shr_one ?_) | ((with_reducible refine shr_any ?k1 ?_); (case k1 => first | assumption | omega)) | walk1) | (leave1; walk_say "STEP leave1"; try dsimp only)) | fail "no step")
      · refine Ends.intro (by assumption) (by assumption) ⟨rfl, _, by rw [sl_one h0 hone h2, val_one]⟩
      · exfalso; omega
    · obtain ⟨b1, b2, c1, a1, a2, I1, I2⟩ := hI.halves hn hone hm
      have hv := val_bits (lo := (lo + hi) / 2) (hi := hi) hn hS (by omega) a2 (by omega) hm
      repeat' (first | ((fail_if_success (with_reducible show wpAny _ _ (call (Value.ref _) _) _ _ _)); first | ((with_reducible show wpAny _ _ (eval (Expr.Name _ _ _) _) _ _ _); kc_free; (with_reducible refine' nameX_F ?N ?c ?m ?d ?_ ?a ?b); (case a => rfl); (case b => rfl); (case N => with_reducible assumption); (case c => rfl); (case m => with_reducible assumption); (case d => with_reducible assumption)) | ((with_reducible refine shl_one ?k1 ?k2 ?_); (case k1 => first | assumption | omega); (case k2 => first | assumption | omega)) | ((with_reducible refine' shl_any ?k1 ?k2 ?k3 ?k4 ?_); (case k1 => first | assumption | omega); (case k2 => first | assumption | omega); (case k3 => bits_by_make); (case k4 => first | decide | omega)) | (with_reducible refine shr_one ?_) | ((with_reducible refine shr_any ?k1 ?_); (case k1 => first | assumption | omega)) | (k_unfold; (try dsimp only)) | walk1 | (dsimp only; first | ((with_reducible show wpAny _ _ (eval (Expr.Name _ _ _) _) _ _ _); kc_free; (with_reducible refine' nameX_F ?N ?c ?m ?d ?_ ?a ?b); (case a => rfl); (case b => rfl); (case N => with_reducible assumption); (case c => rfl); (case m => with_reducible assumption); (case d => with_reducible assumption)) | ((with_reducible refine shl_one ?k1 ?k2 ?_); (case k1 => first | assumption | omega); (case k2 => first | assumption | omega)) | ((with_reducible refine' shl_any ?k1 ?k2 ?k3 ?k4 ?_); (case k1 => first | assumption | omega); (case k2 => first | assumption | omega); (case k3 => bits_by_make); (case k4 => first | decide | omega)) | (with_reducible refine shr_one ?_) | ((with_reducible refine shr_any ?k1 ?_); (case k1 => first | assumption | omega)) | walk1) | (leave1; walk_say "STEP leave1"; try dsimp only)) | fail "no step")
      · exfalso; omega
      · refine CallOk.use (ih _ hi _ _ I2) B (by assumption) X (by assumption) T rfl hd hu ?_
        rintro r9 news9 h9 tk9 F9 N9 ⟨rfl, t9, rfl⟩
        repeat' (first | ((fail_if_success (with_reducible show wpAny _ _ (call (Value.ref _) _) _ _ _)); first | ((with_reducible show wpAny _ _ (eval (Expr.Name _ _ _) _) _ _ _); kc_free; (with_reducible refine' nameX_F ?N ?c ?m ?d ?_ ?a ?b); (case a => rfl); (case b => rfl); (case N => with_reducible assumption); (case c => rfl); (case m => with_reducible assumption); (case d => with_reducible assumption)) | ((with_reducible refine shl_one ?k1 ?k2 ?_); (case k1 => first | assumption | omega); (case k2 => first | assumption | omega)) | ((with_reducible refine' shl_any ?k1 ?k2 ?k3 ?k4 ?_); (case k1 => first | assumption | omega); (case k2 => first | assumption | omega); (case k3 => bits_by_make); (case k4 => first | decide | omega)) | (with_reducible refine shr_one ?_) | ((with_reducible refine shr_any ?k1 ?_); (case k1 => first | assumption | omega)) | (k_unfold; (try dsimp only)) | walk1 | (dsimp only; first | ((with_reducible show wpAny _ _ (eval (Expr.Name _ _ _) _) _ _ _); kc_free; (with_reducible refine' nameX_F ?N ?c ?m ?d ?_ ?a ?b); (case a => rfl); (case b => rfl); (case N => with_reducible assumption); (case c => rfl); (case m => with_reducible assumption); (case d => with_reducible assumption)) | ((with_reducible refine shl_one ?k1 ?k2 ?_); (case k1 => first | assumption | omega); (case k2 => first | assumption | omega)) | ((with_reducible refine' shl_any ?k1 ?k2 ?k3 ?k4 ?_); (case k1 => first | assumption | omega); (case k2 => first | assumption | omega); (case k3 => bits_by_make); (case k4 => first | decide | omega)) | (with_reducible refine shr_one ?_) | ((with_reducible refine shr_any ?k1 ?_); (case k1 => first | assumption | omega)) | walk1) | (leave1; walk_say "STEP leave1"; try dsimp only)) | fail "no step")
        refine CallOk.use (ih lo _ _ _ I1) B (by assumption) X (by assumption) T rfl hd hu ?_
        rintro r8 news8 h8 tk8 F8 N8 ⟨rfl, t8, rfl⟩
        repeat' (first | ((fail_if_success (with_reducible show wpAny _ _ (call (Value.ref _) _) _ _ _)); first | ((with_reducible show wpAny _ _ (eval (Expr.Name _ _ _) _) _ _ _); kc_free; (with_reducible refine' nameX_F ?N ?c ?m ?d ?_ ?a ?b); (case a => rfl); (case b => rfl); (case N => with_reducible assumption); (case c => rfl); (case m => with_reducible assumption); (case d => with_reducible assumption)) | ((with_reducible refine shl_one ?k1 ?k2 ?_); (case k1 => first | assumption | omega); (case k2 => first | assumption | omega)) | ((with_reducible refine' shl_any ?k1 ?k2 ?k3 ?k4 ?_); (case k1 => first | assumption | omega); (case k2 => first | assumption | omega); (case k3 => bits_by_make); (case k4 => first | decide | omega)) | (with_reducible refine shr_one ?_) | ((with_reducible refine shr_any ?k1 ?_); (case k1 => first | assumption | omega)) | (k_unfold; (try dsimp only)) | walk1 | (dsimp only; first | ((with_reducible show wpAny _ _ (eval (Expr.Name _ _ _) _) _ _ _); kc_free; (with_reducible refine' nameX_F ?N ?c ?m ?d ?_ ?a ?b); (case a => rfl); (case b => rfl); (case N => with_reducible assumption); (case c => rfl); (case m => with_reducible assumption); (case d => with_reducible assumption)) | ((with_reducible refine shl_one ?k1 ?k2 ?_); (case k1 => first | assumption | omega); (case k2 => first | assumption | omega)) | ((with_reducible refine' shl_any ?k1 ?k2 ?k3 ?k4 ?_); (case k1 => first | assumption | omega); (case k2 => first | assumption | omega); (case k3 => bits_by_make); (case k4 => first | decide | omega)) | (with_reducible refine shr_one ?_) | ((with_reducible refine shr_any ?k1 ?_); (case k1 => first | assumption | omega)) | walk1) | (leave1; walk_say "STEP leave1"; try dsimp only)) | fail "no step")
        refine Ends.intro (by assumption) (by assumption) ⟨rfl, _, by rw [val_two h0 a1 a2 (by omega) c1]⟩
end
end Mine

end
section
set_option maxRecDepth 100000
set_option maxHeartbeats 8000000
namespace Mine
abbrev pos69 : Pos := ⟨47, 4, 52, 55⟩
abbrev q69 : Str := (Str.ofString "_digits2int" ++ Str.ofString ".<locals>.") ++ Str.ofString "inner"
section
local macro_rules | `(tactic| k_all) => `(tactic| first | with_reducible assumption | (refine' allNe ?ka ?kb; (case ka => with_reducible assumption); (case kb => omega)))
theorem digits2int_ok (w : World) {n : Int} {tn : Tok} {tb news : Led} {lst : Addr} {vs : List Value} {ns : List Int} {e : Nat} (hl : (lst, listOf vs.toArray e) ∈ news) (hi9 : IntsAre vs ns) (hn : 0 < n) (hn2 : n ≤ 10000) (hS : Small n.toNat ns) (hc : (ns.length : Int) ≤ 1000)
    (hm : n * (ns.length : Int) ≤ 1000000) (hT : Tab 37 pos69 q69 tb) (hne : ∀ p ∈ news, p.1 ≠ 37) :
    CallOk PySem.Challenge.rw_nb0143_02.row.prog w (Mine.hd.heap_39 w.params) 42 [.ref lst, .int n tn] 20 200 (tb ++ news)
      (fun r news' => ∃ tb' t, r = .int (val n.toNat ns) t ∧ Tab 37 pos69 q69 tb' ∧ Fresher tb tb' news ∧ news' = tb' ++ news) := by
  k_fill
  refine callOk_of_bodyC (dep := 19) (uni := 197) [(Str.ofString "digits", _), (Str.ofString "n", _)] rfl rfl (fun _ => BindsTo.of_eq rfl) rfl (by decide +kernel) ?_ rfl rfl rfl
  intro p loose mean mg mb dp un gd outer A₀ base g L s cells B F X N Y hlt T hd hu
  obtain ⟨o1, o2, o3, rfl, d1, d2, d3⟩ := CellsAre.three Y
  clear Y
  replace d1 : o1.data = .cell none := d1
  replace d2 : o2.data = .cell (some (.int n tn)) := d2
  replace d3 : o3.data = .cell (some (.ref lst)) := d3
  replace F : Fr g L s.heap (fun _ => none) := F
  simp only [List.cons_append, List.nil_append] at N
  have hC : CodeHd g 41 37 := codeHd_of_K X (by kernel_rfl)
  have hltn : ∀ p ∈ news, p.1 < L := fun p hp => hlt p (List.mem_append_right _ hp)
  cases hT with
  | cold =>
    have h69 := ltN (hlt (37, _) (List.Mem.head _))
    clear hlt
    simp only [List.cons_append, List.nil_append] at N
    repeat' (first | ((fail_if_success (with_reducible show wpAny _ _ (call (Value.ref _) _) _ _ _)); first | ((with_reducible show wpAny _ _ (truthy (Value.ref _)) _ _ _); refine' truthy_N ?N ?m ?i ?f ?_; (case N => with_reducible assumption); (case m => (repeat' (first | with_reducible assumption | (with_reducible refine List.mem_cons_of_mem _ ?_)))); (case i => assumption); (case f => omega)) | ((with_reducible show wpAny _ _ (call (Value.builtin "len") _) _ _ _); refine' len_N ?N ?m ?i ?f ?_; (case N => with_reducible assumption); (case m => (repeat' (first | with_reducible assumption | (with_reducible refine List.mem_cons_of_mem _ ?_)))); (case i => assumption); (case f => omega)) | (k_unfold; (try dsimp only)) | walk1 | (dsimp only; first | ((with_reducible show wpAny _ _ (truthy (Value.ref _)) _ _ _); refine' truthy_N ?N ?m ?i ?f ?_; (case N => with_reducible assumption); (case m => (repeat' (first | with_reducible assumption | (with_reducible refine List.mem_cons_of_mem _ ?_)))); (case i => assumption); (case f => omega)) | ((with_reducible show wpAny _ _ (call (Value.builtin "len") _) _ _ _); refine' len_N ?N ?m ?i ?f ?_; (case N => with_reducible assumption); (case m => (repeat' (first | with_reducible assumption | (with_reducible refine List.mem_cons_of_mem _ ?_)))); (case i => assumption); (case f => omega)) | walk1) | (leave1; walk_say "STEP leave1"; try dsimp only)) | fail "no step")
    · rename News _ _ _ _ => N'
      have hpos : 0 < ns.length := by first | assumption | (have := (by assumption : decide (0 < ns.length) = true); simpa using this)
      refine' CallOk.use (innerD_ok w rfl hn hn2 ?hf ?hc ?hcd ?hcv ?hca ?hoa ?hci ?hoi ?hcn ?hon ?hl hi9 hS hm 10 0 _ _ _ ⟨Int.le_refl _, by omega, Int.le_refl _, by show (ns.length : Int) - 0 ≤ 1024; omega⟩) B ?F X N' T rfl ?d ?u ?_
      case hf => exact List.Mem.head _
      case F => assumption
      case hc => exact .tail _ (List.Mem.head _)
      case hca => k_mem
      case hci => k_mem
      case hcn => k_mem
      case hl => (repeat' (first | with_reducible assumption | exact List.mem_cons_self | (with_reducible refine List.mem_cons_of_mem _ ?_)))
      case hcd => assumption
      case hcv => assumption
      case hoa => assumption
      case hoi => assumption
      case hon => assumption
      case d => omega
      case u => omega
      rintro r9 news9 h9 tk9 F9 N9 ⟨rfl, t9, rfl⟩
      rw [sl_all]
      exact Ends.intro F9 (led_of N9 sub_coldD) ⟨_, t9, rfl, .warm (by assumption) (by assumption) (by refine neN ?_; omega), Fresher.cold (by omega) hltn (by omega), rfl⟩
    · rename News _ _ _ _ => N'
      have hz : ns = [] := List.eq_nil_of_length_eq_zero (by first | omega | (have := (by assumption : decide (0 < ns.length) = false); simpa using this))
      subst hz
      dsimp only
      exact Ends.intro (by assumption) (led_of N' sub_coldD) ⟨_, _, rfl, .warm (by assumption) (by assumption) (by refine neN ?_; omega), Fresher.cold (by omega) hltn (by omega), rfl⟩
  | @warm c oc cvs tq hcd hcv hcP =>
    have h69 := ltN (hlt (37, _) (List.Mem.head _))
    have hcL := ltN (hlt (c, _) (.tail _ (List.Mem.head _)))
    replace hcP := neN hcP
    clear hlt
    simp only [List.cons_append, List.nil_append] at N
    repeat' (first | ((fail_if_success (with_reducible show wpAny _ _ (call (Value.ref _) _) _ _ _)); first | ((with_reducible show wpAny _ _ (truthy (Value.ref _)) _ _ _); refine' truthy_N ?N ?m ?i ?f ?_; (case N => with_reducible assumption); (case m => (repeat' (first | with_reducible assumption | (with_reducible refine List.mem_cons_of_mem _ ?_)))); (case i => assumption); (case f => omega)) | ((with_reducible show wpAny _ _ (call (Value.builtin "len") _) _ _ _); refine' len_N ?N ?m ?i ?f ?_; (case N => with_reducible assumption); (case m => (repeat' (first | with_reducible assumption | (with_reducible refine List.mem_cons_of_mem _ ?_)))); (case i => assumption); (case f => omega)) | (k_unfold; (try dsimp only)) | walk1 | (dsimp only; first | ((with_reducible show wpAny _ _ (truthy (Value.ref _)) _ _ _); refine' truthy_N ?N ?m ?i ?f ?_; (case N => with_reducible assumption); (case m => (repeat' (first | with_reducible assumption | (with_reducible refine List.mem_cons_of_mem _ ?_)))); (case i => assumption); (case f => omega)) | ((with_reducible show wpAny _ _ (call (Value.builtin "len") _) _ _ _); refine' len_N ?N ?m ?i ?f ?_; (case N => with_reducible assumption); (case m => (repeat' (first | with_reducible assumption | (with_reducible refine List.mem_cons_of_mem _ ?_)))); (case i => assumption); (case f => omega)) | walk1) | (leave1; walk_say "STEP leave1"; try dsimp only)) | fail "no step")
    · rename News _ _ _ _ => N'
      have hpos : 0 < ns.length := by first | assumption | (have := (by assumption : decide (0 < ns.length) = true); simpa using this)
      refine' CallOk.use (innerD_ok w rfl hn hn2 ?hf ?hc ?hcd ?hcv ?hca ?hoa ?hci ?hoi ?hcn ?hon ?hl hi9 hS hm 10 0 _ _ _ ⟨Int.le_refl _, by omega, Int.le_refl _, by show (ns.length : Int) - 0 ≤ 1024; omega⟩) B ?F X N' T rfl ?d ?u ?_
      case hf => exact List.Mem.head _
      case F => assumption
      case hc => k_mem
      case hca => k_mem
      case hci => k_mem
      case hcn => k_mem
      case hl => (repeat' (first | with_reducible assumption | exact List.mem_cons_self | (with_reducible refine List.mem_cons_of_mem _ ?_)))
      case hcd => assumption
      case hcv => assumption
      case hoa => assumption
      case hoi => assumption
      case hon => assumption
      case d => omega
      case u => omega
      rintro r9 news9 h9 tk9 F9 N9 ⟨rfl, t9, rfl⟩
      rw [sl_all]
      exact Ends.intro F9 (led_of N9 sub_warmD) ⟨_, t9, rfl, .warm hcd hcv hcP, .refl, rfl⟩
    · rename News _ _ _ _ => N'
      have hz : ns = [] := List.eq_nil_of_length_eq_zero (by first | omega | (have := (by assumption : decide (0 < ns.length) = false); simpa using this))
      subst hz
      dsimp only
      exact Ends.intro (by assumption) (led_of N' sub_warmD) ⟨_, _, rfl, .warm hcd hcv hcP, .refl, rfl⟩
end
end Mine

end
section
set_option maxRecDepth 100000
set_option maxHeartbeats 8000000
namespace Mine
/-- the state of the two tables of codes made in bodies -/
structure Tabs (tb1 tb2 : Led) : Prop where
  t1 : Tab 30 pos62 q62 tb1
  t2 : Tab 37 pos69 q69 tb2
  n1 : ∀ p ∈ tb2, p.1 ≠ 30
  n2 : ∀ p ∈ tb1, p.1 ≠ 37
def OffTabs (news : Led) : Prop := ∀ p ∈ news, p.1 ≠ 30 ∧ p.1 ≠ 37
def TabsUp (tb1 tb2 tb1' tb2' news : Led) : Prop := ∀ p ∈ tb1' ++ tb2', (∃ q ∈ tb1 ++ tb2, q.1 = p.1) ∨ ∀ q ∈ news, q.1 < p.1
theorem TabsUp.refl {tb1 tb2 news : Led} : TabsUp tb1 tb2 tb1 tb2 news := fun p hp => .inl ⟨p, hp, rfl⟩
theorem TabsUp.trans {a b c d e f n n' : Led} (h : TabsUp a b c d n) (k : TabsUp c d e f n') (hs : ∀ p ∈ n, p ∈ n') : TabsUp a b e f n := fun p hp => by
  rcases k p hp with ⟨q, hq, e1⟩ | h2
  · rcases h q hq with ⟨r, hr, e2⟩ | h3
    · exact .inl ⟨r, hr, e2.trans e1⟩
    · exact .inr fun r hr => by rw [← e1]; exact h3 r hr
  · exact .inr fun r hr => h2 r (hs r hr)
theorem TabsUp.ne {a b c d n : Led} {X : Addr} {o : Obj} (h : TabsUp a b c d n) (h1 : ∀ p ∈ a ++ b, p.1 ≠ X) (hX : (X, o) ∈ n) : ∀ p ∈ c ++ d, p.1 ≠ X := fun p hp e1 => by
  rcases h p hp with ⟨q, hq, e2⟩ | h3
  · exact h1 q hq (e2.trans e1)
  · have h4 : X < p.1 := h3 (X, o) hX
    rw [e1] at h4
    exact Nat.lt_irrefl _ h4
def DmPost (a b : Int) (tb1 tb2 news : Led) (r : Value) (news' : Led) : Prop :=
  ∃ ad q rr tb1' tb2' t1 t2, r = .ref ad ∧ Tabs tb1' tb2' ∧ TabsUp tb1 tb2 tb1' tb2' news ∧ news' = (ad, pairObj q rr t1 t2) :: (tb1' ++ (tb2' ++ news)) ∧ (∀ p ∈ tb1' ++ (tb2' ++ news), p.1 < ad) ∧ q * b + rr = a ∧ 0 ≤ rr ∧ rr < b
theorem Tab.has {P : Addr} {pos : Pos} {qual : Str} {tb : Led} (h : Tab P pos qual tb) : ∃ o, (P, o) ∈ tb := by
  cases h with
  | cold => exact ⟨_, .head _⟩
  | warm _ _ _ => exact ⟨_, .head _⟩
section
local macro_rules | `(tactic| bits_by_make) => `(tactic| with_reducible assumption)
local macro_rules | `(tactic| k_all) => `(tactic| with_reducible assumption)
theorem divmod_ok (w : World) {a b : Int} {ta tb : Tok} {tb1 tb2 news : Led} (ha : 0 ≤ a) (hb : 0 < b) (hab : Builtin.Int.intBits a ≤ 100000) (hbb : Builtin.Int.intBits b ≤ 8500) (hc : (Builtin.Int.intBits a : Int) ≤ 1000 * (Builtin.Int.intBits b : Int))
    (hTt : Tabs tb1 tb2) (hOff : OffTabs news) :
    CallOk PySem.Challenge.rw_nb0143_02.row.prog w (Mine.hd.heap_39 w.params) 49 [.int a ta, .int b tb] 30 300 (tb1 ++ (tb2 ++ news))
      (DmPost a b tb1 tb2 news) := by
  k_fill
  refine callOk_of_body (dep := 29) (uni := 297) [(Str.ofString "a", _), (Str.ofString "b", _)] rfl rfl (fun _ => BindsTo.of_eq rfl) (locs rfl) ?_ rfl rfl rfl (by decide)
  intro p loose mean mg mb dp un gd outer A₀ base g L s B F X N hlt T hd hu
  have hbn : 0 < Builtin.Int.intBits b := bits_pos hb
  repeat' (first | ((fail_if_success (with_reducible show wpAny _ _ (call (Value.ref _) _) _ _ _)); first | ((with_reducible refine shl_one ?k1 ?k2 ?_); (case k1 => first | assumption | omega); (case k2 => first | assumption | omega)) | ((with_reducible refine' shl_any ?k1 ?k2 ?k3 ?k4 ?_); (case k1 => first | assumption | omega); (case k2 => first | assumption | omega); (case k3 => bits_by_make); (case k4 => first | decide | omega)) | ((with_reducible show wpAny _ _ (call (Value.builtin "list.append") _) _ _ _); (k_dflt (refine' append_L ?k1 ?k2 ?k3 ?z ?_; (case k1 => k_asm); (case k2 => k_asm); (case k3 => k_upd); (case z => omega))); intro h' F' N') | ((with_reducible show wpAny _ _ (call (Value.builtin "list.reverse") _) _ _ _); (k_dflt (refine' reverse_L ?k1 ?k2 ?k3 ?z ?_; (case k1 => k_asm); (case k2 => k_asm); (case k3 => k_upd); (case z => omega))); intro h' F' N') | (k_unfold; (try dsimp only)) | walk1 | (dsimp only; first | ((with_reducible refine shl_one ?k1 ?k2 ?_); (case k1 => first | assumption | omega); (case k2 => first | assumption | omega)) | ((with_reducible refine' shl_any ?k1 ?k2 ?k3 ?k4 ?_); (case k1 => first | assumption | omega); (case k2 => first | assumption | omega); (case k3 => bits_by_make); (case k4 => first | decide | omega)) | ((with_reducible show wpAny _ _ (call (Value.builtin "list.append") _) _ _ _); (k_dflt (refine' append_L ?k1 ?k2 ?k3 ?z ?_; (case k1 => k_asm); (case k2 => k_asm); (case k3 => k_upd); (case z => omega))); intro h' F' N') | ((with_reducible show wpAny _ _ (call (Value.builtin "list.reverse") _) _ _ _); (k_dflt (refine' reverse_L ?k1 ?k2 ?k3 ?z ?_; (case k1 => k_asm); (case k2 => k_asm); (case k3 => k_upd); (case z => omega))); intro h' F' N') | walk1) | (leave1; walk_say "STEP leave1"; try dsimp only)) | fail "no step")
  refine CallOk.use (int2digits_ok w a _ _ _ tb1 (tb2 ++ news) ha (by omega) (by omega) hab hc hTt.t1 (fun p hp => (List.mem_append.mp hp).elim (hTt.n1 p) fun h => (hOff p h).1)) B (by assumption) X (by assumption) T rfl (by omega) (by omega) ?_
  rintro r9 news9 h9 tk9 F9 N9 ⟨ad, vs, tb1', rfl, hT1', hfr1, rfl, hadne, hadlt, hI9⟩
  generalize hR : tb1' ++ (tb2 ++ news) = REST at *
  repeat' (first | ((fail_if_success (with_reducible show wpAny _ _ (call (Value.ref _) _) _ _ _)); (fail_if_success (with_reducible show wpAny _ _ (pyIter _) _ _ _)); first | ((with_reducible refine shl_one ?k1 ?k2 ?_); (case k1 => first | assumption | omega); (case k2 => first | assumption | omega)) | ((with_reducible refine' shl_any ?k1 ?k2 ?k3 ?k4 ?_); (case k1 => first | assumption | omega); (case k2 => first | assumption | omega); (case k3 => bits_by_make); (case k4 => first | decide | omega)) | ((with_reducible show wpAny _ _ (call (Value.builtin "list.append") _) _ _ _); (k_dflt (refine' append_L ?k1 ?k2 ?k3 ?z ?_; (case k1 => k_asm); (case k2 => k_asm); (case k3 => k_upd); (case z => omega))); intro h' F' N') | ((with_reducible show wpAny _ _ (call (Value.builtin "list.reverse") _) _ _ _); (k_dflt (refine' reverse_L ?k1 ?k2 ?k3 ?z ?_; (case k1 => k_asm); (case k2 => k_asm); (case k3 => k_upd); (case z => omega))); intro h' F' N') | (k_unfold; (try dsimp only)) | walk1 | (dsimp only; first | ((with_reducible refine shl_one ?k1 ?k2 ?_); (case k1 => first | assumption | omega); (case k2 => first | assumption | omega)) | ((with_reducible refine' shl_any ?k1 ?k2 ?k3 ?k4 ?_); (case k1 => first | assumption | omega); (case k2 => first | assumption | omega); (case k3 => bits_by_make); (case k4 => first | decide | omega)) | ((with_reducible show wpAny _ _ (call (Value.builtin "list.append") _) _ _ _); (k_dflt (refine' append_L ?k1 ?k2 ?k3 ?z ?_; (case k1 => k_asm); (case k2 => k_asm); (case k3 => k_upd); (case z => omega))); intro h' F' N') | ((with_reducible show wpAny _ _ (call (Value.builtin "list.reverse") _) _ _ _); (k_dflt (refine' reverse_L ?k1 ?k2 ?k3 ?z ?_; (case k1 => k_asm); (case k2 => k_asm); (case k3 => k_upd); (case z => omega))); intro h' F' N') | walk1) | (leave1; walk_say "STEP leave1"; try dsimp only)) | fail "no step")
  rename News _ _ _ _ => N'; rename Fr _ _ _ _ => F'
  rename_i lq h1 l1 h2 D h3 l2
  have hlqR : ∀ p ∈ (ad, listOf vs.toArray 0) :: REST, p.1 ≠ lq := List.forall_mem_cons.mpr ⟨neN (by omega), fun p hp => Nat.ne_of_lt (ktn_ltOf l1.2 p hp)⟩
  have hlen := hI9.length
  refine iter_rev (σ := List Value × List Int × Int × Nat × Tok) (lo := listOf vs.toArray 0) (fun c => (lq, listOf c.1.toArray c.2.2.2.1) :: (ad, listOf vs.toArray 0) :: REST) (fun c => [(Str.ofString "r", .int c.2.2.1 c.2.2.2.2)]) [Str.ofString "a_digit", Str.ofString "q_digit"]
    (fun i c => IntsAre c.1 c.2.1 ∧ DivInv (Builtin.Int.intBits b) b (digitsOf (Builtin.Int.intBits b) a) i c.2.1 c.2.2.1) ([], [], 0, 0, _) rfl rfl (fun c => .tail _ (.head _)) rfl ⟨0, rfl⟩ F' N' (List.forall_mem_cons.mpr ⟨neN (by omega), List.forall_mem_cons.mpr ⟨neN (by omega), fun p hp => Nat.ne_of_lt (ktn_ltOf l2.2.2 p hp)⟩⟩) (by kst_all) ⟨.nil, .start hb⟩ ?_ ?_
  · rintro i v ⟨vq, qs, r, e, tr⟩ u h tk it hi hv ⟨hIq, hD⟩ hneI F2 N2
    dsimp only [kstB] at hIq hD hneI F2 N2
    obtain ⟨d, td, rfl, hd9, hdm, hi'⟩ := digit_at hI9 hi hv
    obtain ⟨hd0, hd1⟩ := digitsOf_small d hdm
    have hvq : vq.length ≤ 1000 := by have h1 := hIq.length; have h2 := hD.len; have h3 := digitsOf_le hbn hc; omega
    have hpre := hD.pre rfl hb hbb hd0 hd1
    have hbr : Builtin.Int.intBits r ≤ 8500 := bits_of_lt' hD.r0 (Int.lt_trans hD.r1 (bits_lt (by omega))) hbb
    repeat' (first | ((fail_if_success (with_reducible show wpAny _ _ (call (Value.ref _) _) _ _ _)); first | ((with_reducible refine shl_one ?k1 ?k2 ?_); (case k1 => first | assumption | omega); (case k2 => first | assumption | omega)) | ((with_reducible refine' shl_any ?k1 ?k2 ?k3 ?k4 ?_); (case k1 => first | assumption | omega); (case k2 => first | assumption | omega); (case k3 => bits_by_make); (case k4 => first | decide | omega)) | ((with_reducible show wpAny _ _ (call (Value.builtin "list.append") _) _ _ _); (k_dflt (refine' append_L ?k1 ?k2 ?k3 ?z ?_; (case k1 => k_asm); (case k2 => k_asm); (case k3 => k_upd); (case z => omega))); intro h' F' N') | ((with_reducible show wpAny _ _ (call (Value.builtin "list.reverse") _) _ _ _); (k_dflt (refine' reverse_L ?k1 ?k2 ?k3 ?z ?_; (case k1 => k_asm); (case k2 => k_asm); (case k3 => k_upd); (case z => omega))); intro h' F' N') | (k_unfold; (try dsimp only)) | walk1 | (dsimp only; first | ((with_reducible refine shl_one ?k1 ?k2 ?_); (case k1 => first | assumption | omega); (case k2 => first | assumption | omega)) | ((with_reducible refine' shl_any ?k1 ?k2 ?k3 ?k4 ?_); (case k1 => first | assumption | omega); (case k2 => first | assumption | omega); (case k3 => bits_by_make); (case k4 => first | decide | omega)) | ((with_reducible show wpAny _ _ (call (Value.builtin "list.append") _) _ _ _); (k_dflt (refine' append_L ?k1 ?k2 ?k3 ?z ?_; (case k1 => k_asm); (case k2 => k_asm); (case k3 => k_upd); (case z => omega))); intro h' F' N') | ((with_reducible show wpAny _ _ (call (Value.builtin "list.reverse") _) _ _ _); (k_dflt (refine' reverse_L ?k1 ?k2 ?k3 ?z ?_; (case k1 => k_asm); (case k2 => k_asm); (case k3 => k_upd); (case z => omega))); intro h' F' N') | walk1) | (leave1; walk_say "STEP leave1"; try dsimp only)) | fail "no step")
    refine CallOk.use (div2_ok w 3 _ b _ hpre (by omega) _ _ _ _) B (by assumption) X (by assumption) T rfl (by omega) (by omega) ?_
    rintro r8 news8 h8 tk8 F8 N8 ⟨tp, q, r', t1, t2, rfl, rfl, hl8, e1, e2, e3⟩
    have hq1 := ltN (hl8 (lq, _) (.tail _ (.head _)))
    have hDq := neN (hneI (lq, _) (.head _))
    repeat' (first | ((fail_if_success (with_reducible show wpAny _ _ (call (Value.ref _) _) _ _ _)); first | ((with_reducible refine shl_one ?k1 ?k2 ?_); (case k1 => first | assumption | omega); (case k2 => first | assumption | omega)) | ((with_reducible refine' shl_any ?k1 ?k2 ?k3 ?k4 ?_); (case k1 => first | assumption | omega); (case k2 => first | assumption | omega); (case k3 => bits_by_make); (case k4 => first | decide | omega)) | ((with_reducible show wpAny _ _ (call (Value.builtin "list.append") _) _ _ _); (k_dflt (refine' append_L ?k1 ?k2 ?k3 ?z ?_; (case k1 => k_asm); (case k2 => k_asm); (case k3 => k_upd); (case z => omega))); intro h' F' N') | ((with_reducible show wpAny _ _ (call (Value.builtin "list.reverse") _) _ _ _); (k_dflt (refine' reverse_L ?k1 ?k2 ?k3 ?z ?_; (case k1 => k_asm); (case k2 => k_asm); (case k3 => k_upd); (case z => omega))); intro h' F' N') | (k_unfold; (try dsimp only)) | walk1 | (dsimp only; first | ((with_reducible refine shl_one ?k1 ?k2 ?_); (case k1 => first | assumption | omega); (case k2 => first | assumption | omega)) | ((with_reducible refine' shl_any ?k1 ?k2 ?k3 ?k4 ?_); (case k1 => first | assumption | omega); (case k2 => first | assumption | omega); (case k3 => bits_by_make); (case k4 => first | decide | omega)) | ((with_reducible show wpAny _ _ (call (Value.builtin "list.append") _) _ _ _); (k_dflt (refine' append_L ?k1 ?k2 ?k3 ?z ?_; (case k1 => k_asm); (case k2 => k_asm); (case k3 => k_upd); (case z => omega))); intro h' F' N') | ((with_reducible show wpAny _ _ (call (Value.builtin "list.reverse") _) _ _ _); (k_dflt (refine' reverse_L ?k1 ?k2 ?k3 ?z ?_; (case k1 => k_asm); (case k2 => k_asm); (case k3 => k_upd); (case z => omega))); intro h' F' N') | walk1) | (leave1; walk_say "STEP leave1"; try dsimp only)) | fail "no step")
    rename News _ _ _ _ => N3
    try simp only [List.push_toArray] at N3
    dsimp only [TurnPost]
    exact turn_end (vq ++ [.int q t1], qs ++ [q], r', e + 1, t2) (by assumption) N3 sub2 (.tail _ (.head _)) (List.forall_mem_cons.mpr ⟨hDq, fun p9 hp9 => hneI p9 (.tail _ hp9)⟩) (by kst_all) (by ksw_same) ⟨IntsAre.append hIq (.cons q t1 .nil), hD.step hi' hd9 hd0 hd1 e1 e2 e3⟩
  · rintro ⟨vq, qs, r, e, tr⟩ u h tk ⟨hIq, hD⟩ F2 N2
    dsimp only [kstB] at hIq hD F2 N2
    have hvq : vq.length ≤ 1000 := by have h1 := hIq.length; have h2 := hD.len; have h3 := digitsOf_le hbn hc; omega
    repeat' (first | ((fail_if_success (with_reducible show wpAny _ _ (call (Value.ref _) _) _ _ _)); first | ((with_reducible refine shl_one ?k1 ?k2 ?_); (case k1 => first | assumption | omega); (case k2 => first | assumption | omega)) | ((with_reducible refine' shl_any ?k1 ?k2 ?k3 ?k4 ?_); (case k1 => first | assumption | omega); (case k2 => first | assumption | omega); (case k3 => bits_by_make); (case k4 => first | decide | omega)) | ((with_reducible show wpAny _ _ (call (Value.builtin "list.append") _) _ _ _); (k_dflt (refine' append_L ?k1 ?k2 ?k3 ?z ?_; (case k1 => k_asm); (case k2 => k_asm); (case k3 => k_upd); (case z => omega))); intro h' F' N') | ((with_reducible show wpAny _ _ (call (Value.builtin "list.reverse") _) _ _ _); (k_dflt (refine' reverse_L ?k1 ?k2 ?k3 ?z ?_; (case k1 => k_asm); (case k2 => k_asm); (case k3 => k_upd); (case z => omega))); intro h' F' N') | (k_unfold; (try dsimp only)) | walk1 | (dsimp only; first | ((with_reducible refine shl_one ?k1 ?k2 ?_); (case k1 => first | assumption | omega); (case k2 => first | assumption | omega)) | ((with_reducible refine' shl_any ?k1 ?k2 ?k3 ?k4 ?_); (case k1 => first | assumption | omega); (case k2 => first | assumption | omega); (case k3 => bits_by_make); (case k4 => first | decide | omega)) | ((with_reducible show wpAny _ _ (call (Value.builtin "list.append") _) _ _ _); (k_dflt (refine' append_L ?k1 ?k2 ?k3 ?z ?_; (case k1 => k_asm); (case k2 => k_asm); (case k3 => k_upd); (case z => omega))); intro h' F' N') | ((with_reducible show wpAny _ _ (call (Value.builtin "list.reverse") _) _ _ _); (k_dflt (refine' reverse_L ?k1 ?k2 ?k3 ?z ?_; (case k1 => k_asm); (case k2 => k_asm); (case k3 => k_upd); (case z => omega))); intro h' F' N') | walk1) | (leave1; walk_say "STEP leave1"; try dsimp only)) | fail "no step")
    rename News _ _ _ _ => N3
    have h69 : ∃ o, (37, o) ∈ tb2 ++ news := hTt.t2.has.elim fun o ho => ⟨o, List.mem_append_left _ ho⟩
    have hn2' := hfr1.ne hTt.n2 h69
    subst hR
    have N4 := led_of N3 (k := tb2 ++ ((lq, listOf vq.reverse.toArray e) :: (tb1' ++ news))) (by
      intro p9 hp9
      simp only [List.mem_append, List.mem_cons] at hp9 ⊢
      rcases hp9 with h | h | h | h <;> simp only [h, true_or, or_true])
    have hlq69 : lq ≠ 37 := h69.elim fun o ho => Nat.ne_of_gt (ktn_ltOf l1.2 (37, o) (List.mem_append_right _ ho))
    have hS := hD.small
    have hmul : (Builtin.Int.intBits b : Int) * ((qs.reverse).length : Int) ≤ 1000000 := by
      rw [List.length_reverse, hD.len]
      exact digitsOf_mul hbn hbb hab hlen
    refine' CallOk.use (digits2int_ok w (hl := List.Mem.head _) (hi9 := ints_rev hIq) ?hn ?hn2 ?hS ?hc hmul hTt.t2 ?hne) B ?F X N4 T rfl ?d ?u ?_
    case hn => omega
    case hn2 => omega
    case hS => rw [Int.toNat_natCast]; exact fun x hx => hS x (List.mem_reverse.mp hx)
    case hc => rw [List.length_reverse, ← hIq.length]; omega
    case hne => exact List.forall_mem_cons.mpr ⟨hlq69, fun p9 hp9 => (List.mem_append.mp hp9).elim (hn2' p9) fun h => (hOff p9 h).2⟩
    case F => assumption
    case d => omega
    case u => omega
    rintro r7 news7 h7 tk7 F7 N7 ⟨tb2', t7, rfl, hT2', hfr2, rfl⟩
    have h62 : ∃ o, (30, o) ∈ (lq, listOf vq.reverse.toArray e) :: (tb1' ++ news) := hT1'.has.elim fun o ho => ⟨o, .tail _ (List.mem_append_left _ ho)⟩
    have hn1' := hfr2.ne hTt.n1 h62
    rw [Int.toNat_natCast]
    repeat' (first | ((fail_if_success (with_reducible show wpAny _ _ (call (Value.ref _) _) _ _ _)); first | ((with_reducible refine shl_one ?k1 ?k2 ?_); (case k1 => first | assumption | omega); (case k2 => first | assumption | omega)) | ((with_reducible refine' shl_any ?k1 ?k2 ?k3 ?k4 ?_); (case k1 => first | assumption | omega); (case k2 => first | assumption | omega); (case k3 => bits_by_make); (case k4 => first | decide | omega)) | ((with_reducible show wpAny _ _ (call (Value.builtin "list.append") _) _ _ _); (k_dflt (refine' append_L ?k1 ?k2 ?k3 ?z ?_; (case k1 => k_asm); (case k2 => k_asm); (case k3 => k_upd); (case z => omega))); intro h' F' N') | ((with_reducible show wpAny _ _ (call (Value.builtin "list.reverse") _) _ _ _); (k_dflt (refine' reverse_L ?k1 ?k2 ?k3 ?z ?_; (case k1 => k_asm); (case k2 => k_asm); (case k3 => k_upd); (case z => omega))); intro h' F' N') | (k_unfold; (try dsimp only)) | walk1 | (dsimp only; first | ((with_reducible refine shl_one ?k1 ?k2 ?_); (case k1 => first | assumption | omega); (case k2 => first | assumption | omega)) | ((with_reducible refine' shl_any ?k1 ?k2 ?k3 ?k4 ?_); (case k1 => first | assumption | omega); (case k2 => first | assumption | omega); (case k3 => bits_by_make); (case k4 => first | decide | omega)) | ((with_reducible show wpAny _ _ (call (Value.builtin "list.append") _) _ _ _); (k_dflt (refine' append_L ?k1 ?k2 ?k3 ?z ?_; (case k1 => k_asm); (case k2 => k_asm); (case k3 => k_upd); (case z => omega))); intro h' F' N') | ((with_reducible show wpAny _ _ (call (Value.builtin "list.reverse") _) _ _ _); (k_dflt (refine' reverse_L ?k1 ?k2 ?k3 ?z ?_; (case k1 => k_asm); (case k2 => k_asm); (case k3 => k_upd); (case z => omega))); intro h' F' N') | walk1) | (leave1; walk_say "STEP leave1"; try dsimp only)) | fail "no step")
    rename News _ _ _ _ => N8
    rename (∀ p ∈ tb2' ++ _, _ < _) => l8
    have heq := hD.eqAll hlen
    have hval := val_digitsOf (n := (Builtin.Int.intBits b : Int)) ha (by omega)
    rw [Int.toNat_natCast] at hval
    rw [hval] at heq
    refine Ends.intro (by assumption) (led_of N8 ?_) ⟨_, _, _, tb1', tb2', t7, tr, rfl, ⟨hT1', hT2', hn1', hn2'⟩, ?_, rfl, ?_, heq, hD.r0, hD.r1⟩
    · intro p9 hp9
      simp only [List.mem_append, List.mem_cons] at hp9 ⊢
      rcases hp9 with h | h | h | h <;> simp only [h, true_or, or_true]
    · intro p9 hp9
      rcases List.mem_append.mp hp9 with h | h
      · exact (hfr1 p9 h).imp (fun ⟨q9, hq9, e9⟩ => ⟨q9, List.mem_append_left _ hq9, e9⟩) fun h2 q9 hq9 => h2 q9 (List.mem_append_right _ (List.mem_append_right _ hq9))
      · exact (hfr2 p9 h).imp (fun ⟨q9, hq9, e9⟩ => ⟨q9, List.mem_append_right _ hq9, e9⟩) fun h2 q9 hq9 => h2 q9 (List.mem_append_right _ (.tail _ (List.mem_append_right _ hq9)))
    · intro p9 hp9
      refine l8 p9 ?_
      simp only [List.mem_append, List.mem_cons] at hp9 ⊢
      rcases hp9 with h | h | h <;> simp only [h, true_or, or_true]
end
end Mine

end
section
set_option maxRecDepth 100000
set_option maxHeartbeats 8000000
namespace Mine
section
local macro_rules | `(tactic| k_all) => `(tactic| with_reducible assumption)
theorem front_ok (w : World) {l : Addr} {vs : List Value} {ns : List Int} {news : Led} (hI : IntsAre vs ns) (hlen : ns.length ≤ 63) :
    CallOkH PySem.Challenge.rw_nb0143_02.row.prog w (Mine.hd.heap_39 w.params) 88 [.ref l] 10 100 news (ListAt l vs)
      (fun r news' => ∃ t, r = .str (S (frontOf (ns.take 6))) t ∧ news' = news) := by
  k_fill
  refine callOkH_of_body (dep := 9) (uni := 97) [(Str.ofString "script", _)] rfl rfl (fun _ => BindsTo.of_eq rfl) (locs rfl) ListAt.keep ?_ rfl rfl rfl (by decide)
  intro p loose mean mg mb dp un gd outer A₀ base g L s B F X N hLA hlt T hd hu
  have hLi := hLA.isList
  repeat' (first | ((fail_if_success (with_reducible show wpAny _ _ (exec (Stmt.For _ _ _ _ _) _) _ _ _)); first | (k_unfold; (try dsimp only)) | walk1 | (dsimp only; walk1) | (leave1; walk_say "STEP leave1"; try dsimp only)) | fail "no step")
  refine For_invV g rfl rfl ?_ (fun _ => rfl) PassesOwn.never
  repeat' (first | ((fail_if_success (with_reducible show wpAny _ _ (pyIter _) _ _ _)); first | (k_unfold; (try dsimp only)) | walk1 | (dsimp only; walk1) | (leave1; walk_say "STEP leave1"; try dsimp only)) | fail "no step")
  rename News _ _ _ _ => N'; rename Fr _ _ _ _ => F'
  rename IntsAre _ (List.take 6 ns) => hI2
  generalize hxs : List.take 6 ns = xs at *
  have hxl : xs.length ≤ 6 := by rw [← hxs, List.length_take]; omega
  rename_i D ws _ _ _ _
  refine iter_list (σ := Str × Tok) (lo := listOf ws.toArray 0) (fun c => (D, listOf ws.toArray 0) :: news) (fun c => [(Str.ofString "front", .str c.1 c.2)]) [Str.ofString "x", Str.ofString "size", Str.ofString "code"]
    (fun i c => c.1 = S (frontOf (xs.take i))) (_, _) rfl rfl (.inl fun c => .head _) rfl ⟨0, rfl⟩ F' N' (by kst_all) (by dsimp only; exact S_lit rfl) ?_ ?_
  · rintro i v ⟨fr, t9⟩ u h tk I it hi hv hP hneI F2 N2
    dsimp only [kstB] at hP hneI F2 N2
    obtain ⟨x, t, rfl, hx⟩ := int_at hI2 hv
    have hfl : fr.length ≤ 12 := by rw [hP, S_len]; have := front_len (xs.take i); rw [List.length_take] at this; omega
    repeat' (first | ((fail_if_success (with_reducible show wpAny _ _ (call (Value.ref _) _) _ _ _)); first | (k_unfold; (try dsimp only)) | walk1 | (dsimp only; walk1) | (leave1; walk_say "STEP leave1"; try dsimp only)) | fail "no step")
    all_goals dsimp only [TurnPost]
    · exact turn_end (_, _) (by assumption) (by assumption) (fun _ h => .tail _ h) (.head _) hneI (by kst_all) (by ksw_same) (front_snoc hP hx (front_q2 (by assumption)))
    · exact turn_end (_, _) (by assumption) (by assumption) (fun _ h => .tail _ h) (.head _) hneI (by kst_all) (by ksw_same) (front_snoc hP hx (front_q1 (by assumption) (by assumption)))
    · exact turn_end (_, _) (by assumption) (by assumption) (fun _ h => .tail _ h) (.head _) hneI (by kst_all) (by ksw_same) (front_snoc hP hx (front_lt (by assumption) (by assumption) (by assumption)))
    · exact turn_end (_, _) (by assumption) (by assumption) (fun _ h => .tail _ h) (.head _) hneI (by kst_all) (by ksw_same) (front_snoc hP hx (front_ge (by assumption) (by assumption) (by assumption)))
  · rintro ⟨fr, t9⟩ u h tk hP F2 N2
    dsimp only [kstB] at hP F2 N2
    repeat' (first | ((fail_if_success (with_reducible show wpAny _ _ (call (Value.ref _) _) _ _ _)); first | (k_unfold; (try dsimp only)) | walk1 | (dsimp only; walk1) | (leave1; walk_say "STEP leave1"; try dsimp only)) | fail "no step")
    dsimp only
    rw [hI2.length, List.take_length] at hP
    exact Ends.intro (by assumption) (led_of N2 (fun _ h => .tail _ h)) ⟨t9, congrArg (Value.str · _) hP, rfl⟩
end
end Mine

end
section
set_option maxRecDepth 100000
set_option maxHeartbeats 8000000
namespace Mine
section
local macro_rules | `(tactic| k_all) => `(tactic| with_reducible assumption)
theorem state_ok (w : World) {f : List Nat} {tf : Tok} {news : Led} (hf : f.length ≤ 100) :
    CallOk PySem.Challenge.rw_nb0143_02.row.prog w (Mine.hd.heap_39 w.params) 95 [.str (S f) tf] 10 100 news
      (fun r news' => ∃ ad t1 t2, r = .ref ad ∧ news' = (ad, sobj (S (go f false).1) (go f false).2.text t1 t2) :: news ∧ ∀ p ∈ news, p.1 < ad) := by
  k_fill
  refine callOk_of_body (dep := 9) (uni := 97) [(Str.ofString "front", _)] rfl rfl (fun _ => BindsTo.of_eq rfl) (locs rfl) ?_ rfl rfl rfl (by decide)
  intro p loose mean mg mb dp un gd outer A₀ base g L s B F X N hlt T hd hu
  repeat' (first | ((fail_if_success (with_reducible show wpAny _ _ (exec (Stmt.For _ _ _ _ _) _) _ _ _)); first | (k_unfold; (try dsimp only)) | walk1 | (dsimp only; walk1) | (leave1; walk_say "STEP leave1"; try dsimp only)) | fail "no step")
  refine For_invV g rfl rfl ?_ (fun _ => rfl) PassesOwn.never
  repeat' (first | ((fail_if_success (with_reducible show wpAny _ _ (pyIter _) _ _ _)); first | (k_unfold; (try dsimp only)) | walk1 | (dsimp only; walk1) | (leave1; walk_say "STEP leave1"; try dsimp only)) | fail "no step")
  rename News _ _ _ _ => N'; rename Fr _ _ _ _ => F'
  obtain ⟨lo, hlo⟩ : ∃ o, g.get? 3 = some o := ⟨_, X 3 _ rfl⟩
  refine iter_str (σ := Str × Tok × Bool) (l := 3) (fun c => news) (fun c => [(Str.ofString "told", .str c.1 c.2.1), (Str.ofString "half", .bool c.2.2)]) [Str.ofString "sign"]
    (fun i c => GoInv f i c.1 c.2.2) (_, _, _) rfl rfl hlo F' N' (by kst_all) GoInv.start ?_ ?_
  · rintro i k v ⟨told, t9, half⟩ u h tk I it hi hv hP hneI F2 N2
    dsimp only [kstB] at hP hneI F2 N2
    have htl : told.length ≤ 100 := Nat.le_trans hP.len (by omega)
    repeat' (first | ((fail_if_success (with_reducible show wpAny _ _ (call (Value.ref _) _) _ _ _)); first | (k_unfold; (try dsimp only)) | walk1 | (dsimp only; walk1) | (leave1; walk_say "STEP leave1"; try dsimp only)) | fail "no step")
    all_goals dsimp only [TurnPost]
    · obtain ⟨e1, e2⟩ := hP.shut hv (by assumption) (by assumption)
      rename News _ _ _ _ => N5
      rename (_ < _ ∧ _) => lD
      refine Ends.intro (by assumption) (led_of N5 sub_st) ⟨_, _, _, rfl, sobj_eq e1 e2, by first | exact lD.2 | exact ktn_ltOf lD.2⟩
    · exact turn_end (_, _, _) (by assumption) (by assumption) (fun _ h => .tail _ h) (.head _) hneI (by kst_all) (by ksw_same) (hP.add1 hv (by assumption) (by assumption))
    · exact turn_end (_, _, _) (by assumption) (by assumption) (fun _ h => .tail _ h) (.head _) hneI (by kst_all) (by ksw_same) (hP.add2 hv (by assumption) (by assumption))
    · exact turn_end (_, _, _) (by assumption) (by assumption) (fun _ h => .tail _ h) (.head _) hneI (by kst_all) (by ksw_same) (hP.wait hv (by assumption) (by assumption))
  · rintro ⟨told, t9, half⟩ u h tk hP F2 N2
    dsimp only [kstB] at hP F2 N2
    repeat' (first | ((fail_if_success (with_reducible show wpAny _ _ (call (Value.ref _) _) _ _ _)); first | (k_unfold; (try dsimp only)) | walk1 | (dsimp only; walk1) | (leave1; walk_say "STEP leave1"; try dsimp only)) | fail "no step")
    all_goals dsimp only
    · obtain ⟨e1, e2⟩ := hP.fin1 (by assumption)
      refine Ends.intro (by assumption) (by assumption) ⟨_, _, _, rfl, sobj_eq e1 e2, by k_all⟩
    · obtain ⟨e1, e2⟩ := hP.fin0 (by assumption)
      refine Ends.intro (by assumption) (by assumption) ⟨_, _, _, rfl, sobj_eq e1 e2, by k_all⟩
end
end Mine

end
section
set_option maxRecDepth 100000
set_option maxHeartbeats 8000000
namespace Mine
section
local macro_rules | `(tactic| bits_by_make) => `(tactic| with_reducible assumption)
local macro_rules | `(tactic| k_all) => `(tactic| with_reducible assumption)
def CountsPost (st : St) (o : Nat) (news : Led) (r : Value) (news' : Led) : Prop :=
  ∃ lr vr rws tb1 tb2, r = .ref lr ∧ RowsAt vr (cnts st o) rws ∧ Tab 30 pos62 q62 tb1 ∧ Tab 37 pos69 q69 tb2 ∧ news' = (lr, LCg.lst vr) :: (rws ++ (tb1 ++ (tb2 ++ news)))
theorem sub_it {x : Addr × Obj} {a b n : Led} : ∀ p ∈ a ++ (b ++ (x :: n)), p ∈ x :: (a ++ (b ++ n)) := by
  intro p hp
  simp only [List.mem_append, List.mem_cons] at hp ⊢
  rcases hp with h | h | h | h <;> simp only [h, true_or, or_true]
theorem sub_r {x y : Addr × Obj} {a b c : Led} : ∀ p ∈ y :: ([] ++ (a ++ (x :: (b ++ c)))), p ∈ x :: (a ++ (b ++ (y :: c))) := by
  intro p hp
  simp only [List.mem_append, List.mem_cons, List.nil_append] at hp ⊢
  rcases hp with h | h | h | h | h <;> simp only [h, true_or, or_true]
theorem sub_t1 {i c d y : Addr × Obj} {tb rws R : Led} : ∀ p ∈ tb ++ (i :: c :: d :: y :: (rws ++ R)), p ∈ i :: c :: d :: y :: (rws ++ (tb ++ R)) := by
  intro p hp
  simp only [List.mem_append, List.mem_cons] at hp ⊢
  rcases hp with h | h | h | h | h | h | h <;> simp only [h, true_or, or_true]
theorem sub_t2 {i c d y x : Addr × Obj} {tb rws R : Led} : ∀ p ∈ i :: c :: d :: y :: ((rws ++ [x]) ++ (tb ++ R)), p ∈ x :: (tb ++ (i :: c :: d :: y :: (rws ++ R))) := by
  intro p hp
  simp only [List.mem_append, List.mem_cons, List.not_mem_nil, or_false] at hp ⊢
  rcases hp with h | h | h | h | (h | h) | h | h <;> simp only [h, true_or, or_true]
theorem sub_t3 {d y x : Addr × Obj} {tb rws tb2 news : Led} : ∀ p ∈ d :: (rws ++ (tb ++ (tb2 ++ news))), p ∈ d :: y :: (rws ++ (tb ++ (x :: (tb2 ++ news)))) := by
  intro p hp
  simp only [List.mem_append, List.mem_cons] at hp ⊢
  rcases hp with h | h | h | h | h <;> simp only [h, true_or, or_true]
theorem off_30 {I C D Y : Addr} {oI oC oD oc : Obj} {rws R : Led} (h : (30 : Addr) ≠ I ∧ (30 : Addr) ≠ C ∧ (30 : Addr) ≠ D) (hY : Y ≠ 30) (h1 : ∀ p ∈ rws, p.1 ≠ 30) (h2 : ∀ p ∈ R, p.1 ≠ 30) : ∀ p ∈ (I, oI) :: (C, oC) :: (D, oD) :: (Y, oc) :: (rws ++ R), p.1 ≠ 30 :=
  List.forall_mem_cons.mpr ⟨Ne.symm h.1, List.forall_mem_cons.mpr ⟨Ne.symm h.2.1, List.forall_mem_cons.mpr ⟨Ne.symm h.2.2, List.forall_mem_cons.mpr ⟨hY, fun p hp => (List.mem_append.mp hp).elim (h1 p) (h2 p)⟩⟩⟩⟩
theorem off_snoc {a : Addr} {o : Obj} {rws : Led} (h : ∀ p ∈ rws, p.1 ≠ 30) (ha : a ≠ 30) : ∀ p ∈ rws ++ [(a, o)], p.1 ≠ 30 := fun p hp => (List.mem_append.mp hp).elim (h p) fun q => by rw [List.mem_singleton.mp q]; exact ha
theorem off_turn {I C D Y ad : Addr} {oI oC oD oc o : Obj} {tb tb' rws R : Led} (off : LCg.Off3 I C D ((Y, oc) :: (rws ++ (tb ++ R)))) (hne : ∀ p ∈ tb' ++ ((I, oI) :: (C, oC) :: (D, oD) :: (Y, oc) :: (rws ++ R)), p.1 ≠ ad)
    (hfr : Fresher tb tb' ((I, oI) :: (C, oC) :: (D, oD) :: (Y, oc) :: (rws ++ R))) : LCg.Off3 I C D ((Y, oc) :: ((rws ++ [(ad, o)]) ++ (tb' ++ R))) := by
  have m := off.mem
  have mt : ∀ q ∈ tb, q.1 ≠ I ∧ q.1 ≠ C ∧ q.1 ≠ D := fun q hq => m q (.tail _ (List.mem_append_right _ (List.mem_append_left _ hq)))
  refine LCg.Off3.of fun p hp => ?_
  simp only [List.mem_append, List.mem_cons, List.not_mem_nil, or_false] at hp
  rcases hp with h | (h | h) | h | h
  · rw [h]; exact m _ (.head _)
  · exact m p (.tail _ (List.mem_append_left _ h))
  · rw [h]
    exact ⟨Ne.symm (hne (I, oI) (List.mem_append_right _ (.head _))), Ne.symm (hne (C, oC) (List.mem_append_right _ (.tail _ (.head _)))), Ne.symm (hne (D, oD) (List.mem_append_right _ (.tail _ (.tail _ (.head _)))))⟩
  · exact ⟨hfr.ne (fun q hq => (mt q hq).1) ⟨oI, .head _⟩ p h, hfr.ne (fun q hq => (mt q hq).2.1) ⟨oC, .tail _ (.head _)⟩ p h, hfr.ne (fun q hq => (mt q hq).2.2) ⟨oD, .tail _ (.tail _ (.head _))⟩ p h⟩
  · exact m p (.tail _ (List.mem_append_right _ (List.mem_append_right _ h)))
theorem counts_tail (w : World) {scope : Scope} {cb : List Stmt} (hdef : fnParts (Mine.hd.heap_39 w.params) 100 = some (scope, cb)) {st : St} {o n : Nat} (ho : o = 1 ∨ o = 2) (hn : 5 ≤ n) (hn2 : n ≤ 132) {qual : Str} {cdv : Value} {fa : Addr}
    {p : Program} {loose : List Str} {mean : ExcName → Option Value} {mg mb : Str → Option Value} {dp un : Nat} {gd : Option (List Code)} {outer : List Env} {A₀ : Around} {base g : Heap} {L : Addr}
    (B : Below A₀ base outer g) (X : ((Mine.hd.heap_39 w.params)).In g) (T : Top p loose mean mg mb g) (hd : dp + 39 < recursionLimit) (hu : un + 397 < cLine) {a b : Int} {ta tb tw tn : Tok} {m : Str → Option Value} {oc : Obj} {tb1 tb2 news : Led}
    (hTt : Tabs tb1 tb2) (hOff : OffTabs news) (hOff1 : OffTabs ((L + 1, oc) :: news)) (d1 : oc.data = .cell (some (.int (n : Int) tn)))
    (f1 : 0 ≤ a) (f2 : 0 < b) (f3 : Builtin.Int.intBits a ≤ 100000) (f4 : Builtin.Int.intBits b ≤ 8500) (f5 : (Builtin.Int.intBits a : Int) ≤ 1000 * (Builtin.Int.intBits b : Int))
    (f6 : ∀ q rr, q * b + rr = a → 0 ≤ rr → rr < b → q = val (20 * n + n % 2) ((cnts st o).map (val n)).reverse) {s : Shared} {h : Heap} {tk : Nat}
    (F : Fr g L h (fun y => if y = Str.ofString "lower" then some (.int b tb) else if y = Str.ofString "upper" then some (.int a ta) else if y = Str.ofString "wide" then some (.int (20 * (n : Int) + (n : Int).fmod 2) tw) else m y))
    (N1 : News g L h ((L + 1, oc) :: (tb1 ++ (tb2 ++ news)))) :
    wpAny (model PySem.Challenge.rw_nb0143_02.row.prog w) (ktrTop dp un gd qual scope L fa cdv (cellsFrom (L + 1) scope.names []) outer) (execs (cb.drop 9) (envX qual scope L fa cdv (cellsFrom (L + 1) scope.names [])))
      (Ends g L s (CountsPost st o news)) (fun _ _ => False) { s with heap := h, toks := tk } := by
  revert X
  k_fill
  intro X
  have hdef' : fnParts (Mine.hd.heap_39 w.params) 100 = some _ := rfl
  rw [hdef'] at hdef
  cases hdef
  clear hdef'
  have hWd : 20 * (n : Int) + (n : Int).fmod 2 = ((20 * n + n % 2 : Nat) : Int) := by
    have e1 : (n : Int).fmod 2 = ((n % 2 : Nat) : Int) := fmod_nat _ 2
    rw [e1]; omega
  have hm4 : mostOf o ≤ 4 := by unfold mostOf; split <;> omega
  dsimp only [List.drop]
  repeat' (first | ((fail_if_success (with_reducible show wpAny _ _ (call (Value.ref _) _) _ _ _)); first | ((with_reducible show wpAny _ _ (call (Value.builtin "list.reverse") _) _ _ _); (k_dflt (refine' reverse_L ?k1 ?k2 ?k3 ?z ?_; (case k1 => k_asm); (case k2 => k_asm); (case k3 => k_upd); (case z => omega))); intro h' F' N') | (k_unfold; (try dsimp only)) | walk1 | (dsimp only; first | ((with_reducible show wpAny _ _ (call (Value.builtin "list.reverse") _) _ _ _); (k_dflt (refine' reverse_L ?k1 ?k2 ?k3 ?z ?_; (case k1 => k_asm); (case k2 => k_asm); (case k3 => k_upd); (case z => omega))); intro h' F' N') | walk1) | (leave1; walk_say "STEP leave1"; try dsimp only)) | fail "no step")
  refine CallOk.use (divmod_ok w f1 f2 f3 f4 f5 hTt hOff1) B (by assumption) X (led_of N1 sub_it) T rfl (by omega) (by omega) ?_
  clear N1
  rintro r9 news9 h9 tk9 F9 N9 ⟨ad, q, rr, tb1', tb2', t1, t2, rfl, hTt', hUp, rfl, hadl, e1, e2, e3⟩
  obtain ⟨q0, q1, q2, q3⟩ := quo_facts ho hn hn2 (f6 q rr e1 e2 e3)
  rw [← hWd] at q2 q3
  clear f6
  repeat' (first | ((fail_if_success (with_reducible show wpAny _ _ (call (Value.ref _) _) _ _ _)); first | ((with_reducible show wpAny _ _ (call (Value.builtin "list.reverse") _) _ _ _); (k_dflt (refine' reverse_L ?k1 ?k2 ?k3 ?z ?_; (case k1 => k_asm); (case k2 => k_asm); (case k3 => k_upd); (case z => omega))); intro h' F' N') | (k_unfold; (try dsimp only)) | walk1 | (dsimp only; first | ((with_reducible show wpAny _ _ (call (Value.builtin "list.reverse") _) _ _ _); (k_dflt (refine' reverse_L ?k1 ?k2 ?k3 ?z ?_; (case k1 => k_asm); (case k2 => k_asm); (case k3 => k_upd); (case z => omega))); intro h' F' N') | walk1) | (leave1; walk_say "STEP leave1"; try dsimp only)) | fail "no step")
  all_goals first | exact absurd e1 (by assumption) | skip
  rename News _ _ _ _ => N2
  refine CallOk.use (int2digits_ok w q _ _ _ tb1' (tb2' ++ ((L + 1, oc) :: news)) q0 (by omega) (by omega) (by omega) q2 hTt'.t1 (fun p9 hp9 => (List.mem_append.mp hp9).elim (hTt'.n1 p9) fun h => (hOff1 p9 h).1)) B (by assumption) X (led_of N2 (fun _ h => .tail _ h)) T rfl (by omega) (by omega) ?_
  clear N2
  rintro r8 news8 h8 tk8 F8 N8 ⟨ad2, vs, tb1a, rfl, hT1, hfr1, rfl, hadne, hadlt, hI⟩
  rw [q3] at hI
  have hvl : vs.length ≤ 5 := by
    rw [hI.length, List.length_reverse, List.length_map, cnts_len _ ho]; omega
  repeat' (first | ((fail_if_success (with_reducible show wpAny _ _ (call (Value.ref _) _) _ _ _)); (fail_if_success (with_reducible show wpAny _ _ (eval (Expr.ListComp _ _ _ _) _) _ _ _)); first | ((with_reducible show wpAny _ _ (call (Value.builtin "list.reverse") _) _ _ _); (k_dflt (refine' reverse_L ?k1 ?k2 ?k3 ?z ?_; (case k1 => k_asm); (case k2 => k_asm); (case k3 => k_upd); (case z => omega))); intro h' F' N') | (k_unfold; (try dsimp only)) | walk1 | (dsimp only; first | ((with_reducible show wpAny _ _ (call (Value.builtin "list.reverse") _) _ _ _); (k_dflt (refine' reverse_L ?k1 ?k2 ?k3 ?z ?_; (case k1 => k_asm); (case k2 => k_asm); (case k3 => k_upd); (case z => omega))); intro h' F' N') | walk1) | (leave1; walk_say "STEP leave1"; try dsimp only)) | fail "no step")
  rename Fr _ _ _ _ => F2
  refine LCg.ListComp_U (F₀ := F2) (by with_unfolding_all rfl) (by decide) (by rfl) (by decide) (by rfl) ?_
  repeat' (first | ((fail_if_success (with_reducible show LCp.SrcLP _ _ _ _ _ _ _ _ _ _ _ _ _ _ _)); (fail_if_success (with_reducible show LCg.CompSrc _ _ _ _ _ _ _ _ _ _ _ _ _ _)); first | ((with_reducible show wpAny _ _ (call (Value.builtin "list.reverse") _) _ _ _); (k_dflt (refine' reverse_L ?k1 ?k2 ?k3 ?z ?_; (case k1 => k_asm); (case k2 => k_asm); (case k3 => k_upd); (case z => omega))); intro h' F' N') | (k_unfold; (try dsimp only)) | walk1 | (dsimp only; first | ((with_reducible show wpAny _ _ (call (Value.builtin "list.reverse") _) _ _ _); (k_dflt (refine' reverse_L ?k1 ?k2 ?k3 ?z ?_; (case k1 => k_asm); (case k2 => k_asm); (case k3 => k_upd); (case z => omega))); intro h' F' N') | walk1) | (leave1; walk_say "STEP leave1"; try dsimp only)) | fail "no step")
  rename Fr _ _ _ _ => F3; rename News _ _ _ _ => N3
  refine LCg.CompSrc.ledger (by rfl) F3 (led_of N3 sub_r) (.tail _ (List.mem_append_right [] (List.mem_append_right _ (.head _)))) (by show vs.reverse.length ≤ _; rw [List.length_reverse]; exact Nat.le_trans hvl (by decide)) ?_
  intro g'
  have hIr := ints_rev hI
  rw [List.reverse_reverse] at hIr
  have hL30 : L + 1 ≠ 30 := (hOff1 (L + 1, oc) (.head _)).1
  have hR30 : ∀ p9 ∈ (ad2, listOf vs.reverse.toArray 0) :: (tb2' ++ news), p9.1 ≠ 30 := List.forall_mem_cons.mpr ⟨hT1.has.elim fun o9 h9 => Ne.symm (hadne (30, o9) (List.mem_append_left _ h9)), fun p9 hp9 => (List.mem_append.mp hp9).elim (hTt'.n1 p9) fun h => (hOff p9 h).1⟩
  have hRs : (ad2, listOf vs.reverse.toArray 0) ∈ (ad2, listOf vs.reverse.toArray 0) :: (tb2' ++ news) := .head _
  generalize hR : (ad2, listOf vs.reverse.toArray 0) :: (tb2' ++ news) = R at hR30 hRs
  refine compRest_of (fun i ys nw => ∃ rws tb, nw = (L + 1, oc) :: (rws ++ (tb ++ R)) ∧ Tab 30 pos62 q62 tb ∧ RowsAt ys ((cnts st o).take i) rws ∧ ∀ p9 ∈ rws, p9.1 ≠ 30) vs.reverse.length ?_ ?_ _ 0 [] _ (by simp) ⟨[], tb1a, by rw [← hR], hT1, .nil, fun _ h => nomatch h⟩
  · rintro i ys nw v hi hv ⟨rws, tb, rfl, hT, hRows, hoff⟩
    obtain ⟨x9, t9, rfl, hx9⟩ := int_at hIr (by simpa using hv)
    obtain ⟨row, hrow, r0, r1, r2⟩ := row_facts ho hn hx9
    intro I oI C oC D m₂ h tk E' hC hx hF hN off ne
    repeat' (first | ((fail_if_success (with_reducible show wpAny _ _ (call (Value.ref _) _) _ _ _)); (fail_if_success (with_reducible show LCg.CompEnd _ _ _ _ _ _ _ _ _ _ _ _ _ _)); first | ((with_reducible show wpAny _ _ (call (Value.builtin "list.reverse") _) _ _ _); (k_dflt (refine' reverse_L ?k1 ?k2 ?k3 ?z ?_; (case k1 => k_asm); (case k2 => k_asm); (case k3 => k_upd); (case z => omega))); intro h' F' N') | (k_unfold; (try dsimp only)) | walk1 | (dsimp only; first | ((with_reducible show wpAny _ _ (call (Value.builtin "list.reverse") _) _ _ _); (k_dflt (refine' reverse_L ?k1 ?k2 ?k3 ?z ?_; (case k1 => k_asm); (case k2 => k_asm); (case k3 => k_upd); (case z => omega))); intro h' F' N') | walk1) | (leave1; walk_say "STEP leave1"; try dsimp only)) | fail "no step")
    have h30 : (30 : Addr) ≠ I ∧ (30 : Addr) ≠ C ∧ (30 : Addr) ≠ D := hT.has.elim fun o9 h9 => off.mem (30, o9) (.tail _ (List.mem_append_right _ (List.mem_append_left _ h9)))
    refine CallOk.use (int2digits_ok w x9 _ _ _ tb ((I, oI) :: (C, oC) :: (D, LCg.lst ys) :: (L + 1, oc) :: (rws ++ R)) r0 (by omega) (by omega) (by omega) (by omega) hT (off_30 h30 hL30 hoff hR30)) B (by assumption) X (led_of hN sub_t1) T rfl (by omega) (by omega) ?_
    rintro r7 news7 h7 tk7 F7 N7 ⟨ad9, vs9, tb9, rfl, hT9, hfr9, rfl, hne9, hlt9, hI9⟩
    rw [r2] at hI9
    repeat' (first | ((fail_if_success (with_reducible show LCg.CompEnd _ _ _ _ _ _ _ _ _ _ _ _ _ _)); first | ((with_reducible show wpAny _ _ (call (Value.builtin "list.reverse") _) _ _ _); (k_dflt (refine' reverse_L ?k1 ?k2 ?k3 ?z ?_; (case k1 => k_asm); (case k2 => k_asm); (case k3 => k_upd); (case z => omega))); intro h' F' N') | (k_unfold; (try dsimp only)) | walk1 | (dsimp only; first | ((with_reducible show wpAny _ _ (call (Value.builtin "list.reverse") _) _ _ _); (k_dflt (refine' reverse_L ?k1 ?k2 ?k3 ?z ?_; (case k1 => k_asm); (case k2 => k_asm); (case k3 => k_upd); (case z => omega))); intro h' F' N') | walk1) | (leave1; walk_say "STEP leave1"; try dsimp only)) | fail "no step")
    refine LCg.CompEnd.intro F7 N7 ((L + 1, oc) :: ((rws ++ [(ad9, listOf vs9.toArray 0)]) ++ (tb9 ++ R))) sub_t2 (off_turn off hne9 hfr9) (.inr ⟨_, .tail _ (List.mem_append_right _ (List.mem_append_right _ hRs)), rfl, _, rfl⟩) ⟨rws ++ [(ad9, listOf vs9.toArray 0)], tb9, rfl, hT9, ?_, ?_⟩
    · rw [List.take_add_one, hrow]; exact hRows.snoc _ hI9
    · exact off_snoc hoff (hT9.has.elim fun o9 h9 => Ne.symm (hne9 (30, o9) (List.mem_append_left _ h9)))
  · rintro ys nw ⟨rws, tb, rfl, hT, hRows, hoff⟩ D h tk F4 N4 off4
    dsimp only
    subst hR
    have hle : vs.reverse.length = (cnts st o).length := by rw [hIr.length, List.length_map]
    rw [hle, List.take_length] at hRows
    repeat' (first | ((fail_if_success (with_reducible show Ends _ _ _ _ _ _)); first | ((with_reducible show wpAny _ _ (call (Value.builtin "list.reverse") _) _ _ _); (k_dflt (refine' reverse_L ?k1 ?k2 ?k3 ?z ?_; (case k1 => k_asm); (case k2 => k_asm); (case k3 => k_upd); (case z => omega))); intro h' F' N') | (k_unfold; (try dsimp only)) | walk1 | (dsimp only; first | ((with_reducible show wpAny _ _ (call (Value.builtin "list.reverse") _) _ _ _); (k_dflt (refine' reverse_L ?k1 ?k2 ?k3 ?z ?_; (case k1 => k_asm); (case k2 => k_asm); (case k3 => k_upd); (case z => omega))); intro h' F' N') | walk1) | (leave1; walk_say "STEP leave1"; try dsimp only)) | fail "no step")
    exact Ends.intro F4 (led_of N4 sub_t3) ⟨D, ys, rws, tb, tb2', rfl, hRows, hT, hTt'.t2, rfl⟩
end
end Mine

end
section
set_option maxRecDepth 100000
set_option maxHeartbeats 8000000
namespace Mine
section
local macro_rules | `(tactic| bits_by_make) => `(tactic| with_reducible assumption)
local macro_rules | `(tactic| k_all) => `(tactic| with_reducible assumption)
theorem fr_three {g : Heap} {L : Addr} {h : Heap} {M : Str → Option Value} {a b c : Value} (F : Fr g L h M) (h1 : M (Str.ofString "lower") = some a) (h2 : M (Str.ofString "upper") = some b) (h3 : M (Str.ofString "wide") = some c) :
    Fr g L h (fun y => if y = Str.ofString "lower" then some a else if y = Str.ofString "upper" then some b else if y = Str.ofString "wide" then some c else M y) := by
  have e : (fun y => if y = Str.ofString "lower" then some a else if y = Str.ofString "upper" then some b else if y = Str.ofString "wide" then some c else M y) = M := by
    funext y
    split
    · next e => rw [e, h1]
    · split
      · next e => rw [e, h2]
      · split
        · next e => rw [e, h3]
        · rfl
  rw [e]; exact F
theorem counts_ok (w : World) {st : St} {o n : Nat} {ts to tm tn : Tok} {tb1 tb2 news : Led} (ho : o = 1 ∨ o = 2) (hn : 5 ≤ n) (hn2 : n ≤ 132) (hTt : Tabs tb1 tb2) (hOff : OffTabs news) :
    CallOk PySem.Challenge.rw_nb0143_02.row.prog w (Mine.hd.heap_39 w.params) 100 [.str st.text ts, .int (o : Int) to, .int ((mostOf o : Nat) : Int) tm, .int (n : Int) tn] 40 400 (tb1 ++ (tb2 ++ news))
      (CountsPost st o news) := by
  k_fill
  refine callOk_of_bodyC (dep := 39) (uni := 397) [(Str.ofString "state", _), (Str.ofString "others", _), (Str.ofString "most", _), (Str.ofString "field", _)] rfl rfl (fun _ => BindsTo.of_eq rfl) rfl (by decide +kernel) ?_ rfl rfl rfl
  intro p loose mean mg mb dp un gd outer A₀ base g L s cells B F X N Y hlt T hd hu
  obtain ⟨oc, rfl, d1⟩ := CellsAre.one Y
  clear Y
  replace d1 : oc.data = .cell (some (.int (n : Int) tn)) := d1
  replace F : Fr g L s.heap (fun y => if y = Str.ofString "most" then some (.int ((mostOf o : Nat) : Int) tm) else if y = Str.ofString "others" then some (.int (o : Int) to) else if y = Str.ofString "state" then some (.str st.text ts) else none) := F
  simp only [List.cons_append, List.nil_append] at N
  have hWd : 20 * (n : Int) + (n : Int).fmod 2 = ((20 * n + n % 2 : Nat) : Int) := by
    have e1 : (n : Int).fmod 2 = ((n % 2 : Nat) : Int) := fmod_nat _ 2
    rw [e1]; omega
  have h5d : 5 * (n : Int) = ((5 * n : Nat) : Int) := by omega
  have hm4 : mostOf o ≤ 4 := by unfold mostOf; split <;> omega
  have ho2 : (o : Int) ≤ 2 := by omega
  have hOff1 : OffTabs ((L + 1, oc) :: news) := List.forall_mem_cons.mpr ⟨⟨hTt.t1.has.elim fun o9 h9 => Nat.ne_of_gt (Nat.lt_succ_of_lt (hlt (30, o9) (List.mem_append_left _ h9))), hTt.t2.has.elim fun o9 h9 => Nat.ne_of_gt (Nat.lt_succ_of_lt (hlt (37, o9) (List.mem_append_right _ (List.mem_append_left _ h9))))⟩, hOff⟩
  cases st with
  | on =>
    repeat' (first | ((fail_if_success (with_reducible show wpAny _ _ (call (Value.ref _) _) _ _ _)); (fail_if_success (with_reducible show wpAny _ _ (execs (Stmt.Assign [Expr.Tuple _ _ _] _ _ :: _) _) _ _ _)); first | ((with_reducible refine' pow2_of ?k1 ?k2 ?_); (case k1 => first | (with_reducible assumption) | rfl); (case k2 => omega); intro _ _ _) | ((with_reducible refine' powm_of ?k1 ?k2 ?k3 ?_); (case k1 => rfl); (case k2 => assumption); (case k3 => assumption); intro _ _ _) | (k_unfold; (try dsimp only)) | walk1 | (dsimp only; first | ((with_reducible refine' pow2_of ?k1 ?k2 ?_); (case k1 => first | (with_reducible assumption) | rfl); (case k2 => omega); intro _ _ _) | ((with_reducible refine' powm_of ?k1 ?k2 ?k3 ?_); (case k1 => rfl); (case k2 => assumption); (case k3 => assumption); intro _ _ _) | walk1) | (leave1; walk_say "STEP leave1"; try dsimp only)) | fail "no step")
    rename (_ = 2 ^ (20 * n + n % 2)) => hx
    rename (_ = 2 ^ n) => hu'
    rename (_ = 2 ^ (5 * n)) => hv
    rename (_ = _ ^ mostOf o) => hY
    rename News _ _ _ _ => N1
    obtain ⟨f1, f2, f3, f4, f5, f6⟩ := up_facts .on ho hn hn2 hx hu' hv hY (by assumption) (by assumption) (by assumption) (by assumption)
    simp only [upN, lowN, tokN, endN] at f1 f2 f3 f4 f5 f6
    rename Fr _ _ _ _ => F1
    exact counts_tail w rfl ho hn hn2 B X T hd hu hTt hOff hOff1 d1 f1 f2 f3 f4 f5 f6 (fr_three F1 rfl rfl rfl) N1
  | half =>
    repeat' (first | ((fail_if_success (with_reducible show wpAny _ _ (call (Value.ref _) _) _ _ _)); (fail_if_success (with_reducible show wpAny _ _ (execs (Stmt.Assign [Expr.Tuple _ _ _] _ _ :: _) _) _ _ _)); first | ((with_reducible refine' pow2_of ?k1 ?k2 ?_); (case k1 => first | (with_reducible assumption) | rfl); (case k2 => omega); intro _ _ _) | ((with_reducible refine' powm_of ?k1 ?k2 ?k3 ?_); (case k1 => rfl); (case k2 => assumption); (case k3 => assumption); intro _ _ _) | (k_unfold; (try dsimp only)) | walk1 | (dsimp only; first | ((with_reducible refine' pow2_of ?k1 ?k2 ?_); (case k1 => first | (with_reducible assumption) | rfl); (case k2 => omega); intro _ _ _) | ((with_reducible refine' powm_of ?k1 ?k2 ?k3 ?_); (case k1 => rfl); (case k2 => assumption); (case k3 => assumption); intro _ _ _) | walk1) | (leave1; walk_say "STEP leave1"; try dsimp only)) | fail "no step")
    rename (_ = 2 ^ (20 * n + n % 2)) => hx
    rename (_ = 2 ^ n) => hu'
    rename (_ = 2 ^ (5 * n)) => hv
    rename (_ = _ ^ mostOf o) => hY
    rename News _ _ _ _ => N1
    obtain ⟨f1, f2, f3, f4, f5, f6⟩ := up_facts .half ho hn hn2 hx hu' hv hY (by assumption) (by assumption) (by assumption) (by assumption)
    simp only [upN, lowN, tokN, endN] at f1 f2 f3 f4 f5 f6
    rename Fr _ _ _ _ => F1
    exact counts_tail w rfl ho hn hn2 B X T hd hu hTt hOff hOff1 d1 f1 f2 f3 f4 f5 f6 (fr_three F1 rfl rfl rfl) N1
  | shut =>
    repeat' (first | ((fail_if_success (with_reducible show wpAny _ _ (call (Value.ref _) _) _ _ _)); (fail_if_success (with_reducible show wpAny _ _ (execs (Stmt.Assign [Expr.Tuple _ _ _] _ _ :: _) _) _ _ _)); first | ((with_reducible refine' pow2_of ?k1 ?k2 ?_); (case k1 => first | (with_reducible assumption) | rfl); (case k2 => omega); intro _ _ _) | ((with_reducible refine' powm_of ?k1 ?k2 ?k3 ?_); (case k1 => rfl); (case k2 => assumption); (case k3 => assumption); intro _ _ _) | (k_unfold; (try dsimp only)) | walk1 | (dsimp only; first | ((with_reducible refine' pow2_of ?k1 ?k2 ?_); (case k1 => first | (with_reducible assumption) | rfl); (case k2 => omega); intro _ _ _) | ((with_reducible refine' powm_of ?k1 ?k2 ?k3 ?_); (case k1 => rfl); (case k2 => assumption); (case k3 => assumption); intro _ _ _) | walk1) | (leave1; walk_say "STEP leave1"; try dsimp only)) | fail "no step")
    rename (_ = 2 ^ (20 * n + n % 2)) => hx
    rename (_ = 2 ^ n) => hu'
    rename (_ = 2 ^ (5 * n)) => hv
    rename (_ = _ ^ mostOf o) => hY
    rename News _ _ _ _ => N1
    obtain ⟨f1, f2, f3, f4, f5, f6⟩ := up_facts .shut ho hn hn2 hx hu' hv hY (by assumption) (by assumption) (by assumption) (by assumption)
    simp only [upN, lowN, tokN, endN] at f1 f2 f3 f4 f5 f6
    rename Fr _ _ _ _ => F1
    exact counts_tail w rfl ho hn hn2 B X T hd hu hTt hOff hOff1 d1 f1 f2 f3 f4 f5 f6 (fr_three F1 rfl rfl rfl) N1
end
end Mine

end
section
set_option maxRecDepth 100000
set_option maxHeartbeats 8000000
namespace Mine
def lawParts (K : Frag) : Option (Scope × List Stmt × List Stmt) := match K.lookup 105 with
  | some ⟨_, _, .func fd, _⟩ => (match fd.body with
    | .stmts b => (match b[10]? with
      | some (Stmt.For _ _ lb _ _) => some (fd.scope, b, lb)
      | _ => none)
    | _ => none)
  | _ => none
/-- what the law's loop keeps: the texts, their list, the cell of told_at -/
structure TS where
  tv : List Value
  lt : Addr
  e : Nat
  o2 : Obj
section
local macro_rules | `(tactic| k_all) => `(tactic| with_reducible assumption)
abbrev ledT (L : Addr) (REST : Led) (c : TS) : Led := (L + 1 + 1, c.o2) :: (c.lt, listOf c.tv.toArray c.e) :: REST
abbrev psT (f toldL : List Nat) (t1 t2 : Tok) (c : TS) : List (Str × Value) := [(Str.ofString "front", .str (S f) t1), (Str.ofString "told", .str (S toldL) t2), (Str.ofString "texts", .ref c.lt)]
abbrev stT : List Str := [Str.ofString "row", Str.ofString "text", Str.ofString "name", Str.ofString "more"]
def invT (sg : List Nat) (L : Addr) (i : Nat) (c : TS) : Prop := StrsAre c.tv ((textsAt sg i).map S) ∧ (∃ v₀, c.o2.data = .cell v₀) ∧ c.lt ≠ L + 1 + 1
theorem law_turn (w : World) {scope : Scope} {lawB lb : List Stmt} (hdef : lawParts (Mine.hd.heap_39 w.params) = some (scope, lawB, lb)) {qual : Str} {cdv : Value} {fa : Addr} {f toldL : List Nat} {st : St} {o k : Nat} (ho : o = 1 ∨ o = 2) (hk : 35 ≤ k) (hk2 : k ≤ 1034)
    (hf : f.length ≤ 12) (htl : toldL.length ≤ 12) (hrd : ∀ t, rd (f ++ t) = toldL ++ more st t)
    {p : Program} {loose : List Str} {mean : ExcName → Option Value} {mg mb : Str → Option Value} {dp un : Nat} {gd : Option (List Code)} {outer : List Env} {A₀ : Around} {base g : Heap} {L : Addr}
    (B : Below A₀ base outer g) (X : ((Mine.hd.heap_39 w.params)).In g) (T : Top p loose mean mg mb g) (hd : dp + 60 < recursionLimit) (hu : un + 600 < cLine)
    {m₀ : Str → Option Value} {ls : Addr} {o1 : Obj} {sgv : List Value} {rest : Led} {t1 t2 : Tok} {vr : List Value} {rws : Led}
    (hsg : StrsAre sgv ((sgOf o k).map fun c => S [c])) (ho1 : o1.data = .cell (some (.ref ls))) (hrows : RowsAt vr (cnts st o) rws) (hrw : ∀ p ∈ rws, p ∈ rest)
    (hL2 : ∀ p ∈ (L + 1, o1) :: (ls, listOf sgv.toArray 0) :: rest, p.1 ≠ L + 1 + 1) {Q : Flow → Shared → Prop} (s : Shared) :
    ∀ (i : Nat) (v : Value) (c : TS) (u : Str → Option Value) (h : Heap) (tk : Nat) (I : Addr) (it : Obj), i < vr.length → vr[i]? = some v → invT (sgOf o k) L i c → (∀ p ∈ ledT L ((L + 1, o1) :: (ls, listOf sgv.toArray 0) :: rest) c, p.1 ≠ I) →
      Fr g L h (fun y => if y = Str.ofString "row" then some v else kstB (fun z => if stT.contains z then u z else m₀ z) (psT f toldL t1 t2 c) y) → News g L h ((I, it) :: ledT L ((L + 1, o1) :: (ls, listOf sgv.toArray 0) :: rest) c) →
      wpAny (model PySem.Challenge.rw_nb0143_02.row.prog w) (ktrTop dp un gd qual scope L fa cdv (cellsFrom (L + 1) scope.names []) outer) (execs lb (envX qual scope L fa cdv (cellsFrom (L + 1) scope.names [])))
        (TurnPost g L I it { s with heap := h, toks := tk } (ledT L ((L + 1, o1) :: (ls, listOf sgv.toArray 0) :: rest)) (psT f toldL t1 t2) stT m₀ (invT (sgOf o k) L) i Q) (fun _ _ => False) { s with heap := h, toks := tk } := by
  revert X
  k_fill
  intro X
  have hdef' : lawParts (Mine.hd.heap_39 w.params) = some _ := rfl
  rw [hdef'] at hdef
  cases hdef
  clear hdef'
  rintro i v ⟨tv, lt, e, o2⟩ u h tk I it hi hv ⟨hS, ⟨v₀, ho2⟩, hlt2⟩ hneI F N
  dsimp only [kstB, psT, ledT] at hS ho2 hlt2 hneI F N
  obtain ⟨a, vs, row, rfl, hrow, hI9, hmem⟩ := hrows.at hv
  obtain ⟨hcnt, hsum⟩ := row_right (st := st) ho hk hrow
  have hlt2' := neN hlt2
  have hls2 := neN (hL2 (ls, _) (.tail _ (.head _)))
  have hr2 : ∀ p ∈ rest, p.1 ≠ L + 1 + 1 := fun p hp => hL2 p (.tail _ (.tail _ hp))
  have hI2 := neN (hneI (L + 1 + 1, _) (.head _))
  have hvl : vr.length ≤ 5 := by rw [hrows.len, cnts_len _ ho]; unfold mostOf; split <;> omega
  have htvl : tv.length = (textsAt (sgOf o k) i).length := by rw [strs_len hS, List.length_map]
  have htx : (textsAt (sgOf o k) i).length ≤ 81 := by
    have h1 := texts_len (sgOf o k) i
    have h2 : (sgOf o k).length ≤ 3 := by unfold sgOf; split <;> simp
    have h3 : (sgOf o k).length ^ i ≤ 3 ^ 4 := Nat.le_trans (Nat.pow_le_pow_left h2 i) (Nat.pow_le_pow_right (by decide) (by omega))
    omega
  repeat' (first | ((fail_if_success (with_reducible show wpAny _ _ (call (Value.ref _) _) _ _ _)); (fail_if_success (with_reducible show wpAny _ _ (exec (Stmt.For _ _ _ _ _) _) _ _ _)); first | ((with_reducible show wpAny _ _ (call (Value.builtin "list.append") _) _ _ _); (k_dflt (refine' append_L ?k1 ?k2 ?k3 ?z ?_; (case k1 => k_asm); (case k2 => k_asm); (case k3 => k_upd); (case z => omega))); intro h' F' N') | (k_unfold; (try dsimp only)) | walk1 | (dsimp only; first | ((with_reducible show wpAny _ _ (call (Value.builtin "list.append") _) _ _ _); (k_dflt (refine' append_L ?k1 ?k2 ?k3 ?z ?_; (case k1 => k_asm); (case k2 => k_asm); (case k3 => k_upd); (case z => omega))); intro h' F' N') | walk1) | (leave1; walk_say "STEP leave1"; try dsimp only)) | fail "no step")
  rename (_ = Data.cell (some (Value.ref _))) => dc
  rename (_ < _ ∧ _) => lD
  rename_i D hD1 hD2 oc F1 N1
  refine For_invV g rfl rfl ?_ (fun _ => rfl) PassesOwn.never
  repeat' (first | ((fail_if_success (with_reducible show wpAny _ _ (pyIter _) _ _ _)); first | ((with_reducible show wpAny _ _ (call (Value.builtin "list.append") _) _ _ _); (k_dflt (refine' append_L ?k1 ?k2 ?k3 ?z ?_; (case k1 => k_asm); (case k2 => k_asm); (case k3 => k_upd); (case z => omega))); intro h' F' N') | (k_unfold; (try dsimp only)) | walk1 | (dsimp only; first | ((with_reducible show wpAny _ _ (call (Value.builtin "list.append") _) _ _ _); (k_dflt (refine' append_L ?k1 ?k2 ?k3 ?z ?_; (case k1 => k_asm); (case k2 => k_asm); (case k3 => k_upd); (case z => omega))); intro h' F' N') | walk1) | (leave1; walk_say "STEP leave1"; try dsimp only)) | fail "no step")
  rename News _ _ _ _ => N'; rename Fr _ _ _ _ => F'
  refine iter_list (σ := List Value × Nat) (lo := listOf tv.toArray e) (fun c => (D, listOf c.1.toArray c.2) :: (I, it) :: (L + 1 + 1, oc) :: (lt, listOf tv.toArray e) :: (L + 1, o1) :: (ls, listOf sgv.toArray 0) :: rest) (fun c => []) [Str.ofString "text", Str.ofString "name", Str.ofString "more"]
    (fun j c => IntsAre c.1 (((textsAt (sgOf o k) i).take j).map fun t => (wt (more st t) : Int))) ([], 0) rfl rfl (.inl fun c => .tail _ (.tail _ (.tail _ (.head _)))) rfl ⟨e, rfl⟩ F' N' (by kst_all) .nil ?_ ?_
  · rintro j v ⟨tl, e2⟩ u2 h2 tk2 J jt hj hv2 hP hneJ F2 N2
    dsimp only [kstB] at hP hneJ F2 N2
    obtain ⟨t, tt, rfl, ht⟩ := str_at hS hv2
    have htm := List.mem_of_getElem? ht
    have htl4 := texts_each _ _ t htm
    have hSt : (S t).length ≤ 4 := by rw [S_len]; omega
    have hSf : (S f).length ≤ 12 := by rw [S_len]; omega
    repeat' (first | ((fail_if_success (with_reducible show wpAny _ _ (call (Value.ref _) _) _ _ _)); first | ((with_reducible show wpAny _ _ (call (Value.builtin "list.append") _) _ _ _); (k_dflt (refine' append_L ?k1 ?k2 ?k3 ?z ?_; (case k1 => k_asm); (case k2 => k_asm); (case k3 => k_upd); (case z => omega))); intro h' F' N') | (k_unfold; (try dsimp only)) | walk1 | (dsimp only; first | ((with_reducible show wpAny _ _ (call (Value.builtin "list.append") _) _ _ _); (k_dflt (refine' append_L ?k1 ?k2 ?k3 ?z ?_; (case k1 => k_asm); (case k2 => k_asm); (case k3 => k_upd); (case z => omega))); intro h' F' N') | walk1) | (leave1; walk_say "STEP leave1"; try dsimp only)) | fail "no step")
    rw [open_app2]
    refine CallOk.use (parse257_ok _ _ _ _ (by rw [List.length_append]; omega)) B (by assumption) X (by assumption) T rfl (by omega) (by omega) ?_
    rintro r9 news9 h9 tk9 F9 N9 ⟨rfl, t8, hr⟩
    rw [hrd t] at hr
    subst hr
    have hml := more_len st t
    have hSn : (S (toldL ++ more st t)).length ≤ 20 := by rw [S_len, List.length_append]; omega
    have hSd : (S toldL).length ≤ 12 := by rw [S_len]; omega
    repeat' (first | ((fail_if_success (with_reducible show wpAny _ _ (call (Value.ref _) _) _ _ _)); (fail_if_success (with_reducible show wpAny _ _ (compareOp _ _ _) _ _ _)); first | ((with_reducible show wpAny _ _ (call (Value.builtin "list.append") _) _ _ _); (k_dflt (refine' append_L ?k1 ?k2 ?k3 ?z ?_; (case k1 => k_asm); (case k2 => k_asm); (case k3 => k_upd); (case z => omega))); intro h' F' N') | (k_unfold; (try dsimp only)) | walk1 | (dsimp only; first | ((with_reducible show wpAny _ _ (call (Value.builtin "list.append") _) _ _ _); (k_dflt (refine' append_L ?k1 ?k2 ?k3 ?z ?_; (case k1 => k_asm); (case k2 => k_asm); (case k3 => k_upd); (case z => omega))); intro h' F' N') | walk1) | (leave1; walk_say "STEP leave1"; try dsimp only)) | fail "no step")
    rw [(slice_told rfl).1]
    refine ne_str ?_
    rw [bne_self_eq_false]
    have hsl := (slice_told (a := toldL) (b := more st t) rfl).2
    have hslen : (Txt.slice (S (toldL ++ more st t)) (some ↑(S toldL).length) none).length ≤ 5 := by rw [hsl, S_len]; omega
    have htll : tl.length ≤ 81 := by have := hP.length; rw [List.length_map, List.length_take] at this; omega
    have hDJ := neN (hneJ (D, _) (.head _))
    repeat' (first | ((fail_if_success (with_reducible show wpAny _ _ (call (Value.ref _) _) _ _ _)); first | ((with_reducible show wpAny _ _ (call (Value.builtin "list.append") _) _ _ _); (k_dflt (refine' append_L ?k1 ?k2 ?k3 ?z ?_; (case k1 => k_asm); (case k2 => k_asm); (case k3 => k_upd); (case z => omega))); intro h' F' N') | (k_unfold; (try dsimp only)) | walk1 | (dsimp only; first | ((with_reducible show wpAny _ _ (call (Value.builtin "list.append") _) _ _ _); (k_dflt (refine' append_L ?k1 ?k2 ?k3 ?z ?_; (case k1 => k_asm); (case k2 => k_asm); (case k3 => k_upd); (case z => omega))); intro h' F' N') | walk1) | (leave1; walk_say "STEP leave1"; try dsimp only)) | fail "no step")
    dsimp only [TurnPost]
    rename News _ _ _ _ => N5
    exact turn_end (_, e2 + 1) (by assumption) N5 (fun _ h => .tail _ h) (.head _) (List.forall_mem_cons.mpr ⟨hDJ, fun p9 hp9 => hneJ p9 (.tail _ hp9)⟩) (by kst_all) (by ksw_same) (by rw [wt_eq hsl]; exact ints_snoc hP (take_map ht))
  · rintro ⟨tl, e2⟩ u2 h2 tk2 hP F2 N2
    dsimp only [kstB] at hP F2 N2
    rw [htvl, List.take_length] at hP
    have hP' : IntsAre tl (toldsAt st (sgOf o k) i) := hP
    clear hP
    have hra := hrw _ hmem
    have hrl : row.length ≤ 12 := (cnts_ok st ho row (List.mem_of_getElem? hrow)).2.2.1
    have hvsl : vs.length ≤ 12 := by rw [hI9.length]; exact hrl
    have N3 : News g L h2 ((a, listOf vs.toArray 0) :: (D, listOf tl.toArray e2) :: (I, it) :: (L + 1 + 1, oc) :: (lt, listOf tv.toArray e) :: (L + 1, o1) :: (ls, listOf sgv.toArray 0) :: rest) := fun p9 hp9 => by
      rcases List.mem_cons.mp hp9 with rfl | hp9
      · exact N2 _ (.tail _ (.tail _ (.tail _ (.tail _ (.tail _ (.tail _ hra))))))
      · exact N2 _ hp9
    clear N2
    repeat' (first | ((fail_if_success (with_reducible show wpAny _ _ (call (Value.ref _) _) _ _ _)); (fail_if_success (with_reducible show wpAny _ _ (eval (Expr.ListComp _ _ _ _) _) _ _ _)); first | ((with_reducible show wpAny _ _ (call (Value.builtin "list.append") _) _ _ _); (k_dflt (refine' append_L ?k1 ?k2 ?k3 ?z ?_; (case k1 => k_asm); (case k2 => k_asm); (case k3 => k_upd); (case z => omega))); intro h' F' N') | (k_unfold; (try dsimp only)) | walk1 | (dsimp only; first | ((with_reducible show wpAny _ _ (call (Value.builtin "list.append") _) _ _ _); (k_dflt (refine' append_L ?k1 ?k2 ?k3 ?z ?_; (case k1 => k_asm); (case k2 => k_asm); (case k3 => k_upd); (case z => omega))); intro h' F' N') | walk1) | (leave1; walk_say "STEP leave1"; try dsimp only)) | fail "no step")
    rename Fr _ _ _ _ => F3
    refine LCg.ListComp_U (F₀ := F3) (by with_unfolding_all rfl) (by decide) (by rfl) (by decide) (by rfl) ?_
    repeat' (first | ((fail_if_success (with_reducible show LCp.SrcLP _ _ _ _ _ _ _ _ _ _ _ _ _ _ _)); (fail_if_success (with_reducible show LCg.CompSrc _ _ _ _ _ _ _ _ _ _ _ _ _ _)); first | ((with_reducible show wpAny _ _ (call (Value.builtin "list.append") _) _ _ _); (k_dflt (refine' append_L ?k1 ?k2 ?k3 ?z ?_; (case k1 => k_asm); (case k2 => k_asm); (case k3 => k_upd); (case z => omega))); intro h' F' N') | (k_unfold; (try dsimp only)) | walk1 | (dsimp only; first | ((with_reducible show wpAny _ _ (call (Value.builtin "list.append") _) _ _ _); (k_dflt (refine' append_L ?k1 ?k2 ?k3 ?z ?_; (case k1 => k_asm); (case k2 => k_asm); (case k3 => k_upd); (case z => omega))); intro h' F' N') | walk1) | (leave1; walk_say "STEP leave1"; try dsimp only)) | fail "no step")
    refine LCg.CompSrc.range (by rfl) (by assumption) (by assumption) (by assumption) (small_one (by omega) (by omega) (by omega) (by omega)) (rangeSize_nat _ _) (by rw [PySem.sizeLine_eq]; omega) ?_
    intro g'
    refine compRest_of (fun j ys nw => nw = (a, listOf vs.toArray 0) :: (D, listOf tl.toArray e2) :: (I, it) :: (L + 1 + 1, oc) :: (lt, listOf tv.toArray e) :: (L + 1, o1) :: (ls, listOf sgv.toArray 0) :: rest ∧ IntsAre ys ((List.range j).map fun (k9 : Nat) => (((toldsAt st (sgOf o k) i).count (k9 : Int) : Nat) : Int))) _ ?_ ?_ _ 0 [] _ (Nat.zero_add _) ⟨rfl, .nil⟩
    · rintro j ys nw v hj ⟨t9, rfl⟩ ⟨rfl, hys⟩
      intro I2 oI C oC D2 m₂ h3 tk3 E' hC hx hF hN off ne
      repeat' (first | ((fail_if_success (with_reducible show wpAny _ _ (call (Value.ref _) _) _ _ _)); (fail_if_success (with_reducible show LCg.CompEnd _ _ _ _ _ _ _ _ _ _ _ _ _ _)); (fail_if_success (with_reducible show wpAny _ _ (call (Value.builtin "list.count") _) _ _ _)); first | ((with_reducible show wpAny _ _ (call (Value.builtin "list.append") _) _ _ _); (k_dflt (refine' append_L ?k1 ?k2 ?k3 ?z ?_; (case k1 => k_asm); (case k2 => k_asm); (case k3 => k_upd); (case z => omega))); intro h' F' N') | (k_unfold; (try dsimp only)) | walk1 | (dsimp only; first | ((with_reducible show wpAny _ _ (call (Value.builtin "list.append") _) _ _ _); (k_dflt (refine' append_L ?k1 ?k2 ?k3 ?z ?_; (case k1 => k_asm); (case k2 => k_asm); (case k3 => k_upd); (case z => omega))); intro h' F' N') | walk1) | (leave1; walk_say "STEP leave1"; try dsimp only)) | fail "no step")
      refine count_list_ints (News.isList hN (.tail _ (.tail _ (.tail _ (.tail _ (.head _)))))) hP' ?_
      refine LCg.CompEnd.intro hF hN _ (fun _ h => h) off trivial ⟨rfl, ?_⟩
      rw [Int.zero_add]
      exact ints_snoc hys (by rw [List.range_succ, List.map_append]; rfl)
    · rintro ys nw ⟨rfl, hys⟩ D2 h3 tk3 F4 N4 off4
      rw [show ((row.length : Int) - 0).toNat = row.length by omega] at hys
      have hys' : IntsAre ys row := by
        have e9 : (List.range row.length).map (fun (k9 : Nat) => (((toldsAt st (sgOf o k) i).count (k9 : Int) : Nat) : Int)) = row := hcnt
        rw [e9] at hys; exact hys
      clear hys
      dsimp only
      repeat' (first | ((fail_if_success (with_reducible show wpAny _ _ (call (Value.ref _) _) _ _ _)); (fail_if_success (with_reducible show wpAny _ _ (compareOp _ _ _) _ _ _)); first | ((with_reducible show wpAny _ _ (call (Value.builtin "list.append") _) _ _ _); (k_dflt (refine' append_L ?k1 ?k2 ?k3 ?z ?_; (case k1 => k_asm); (case k2 => k_asm); (case k3 => k_upd); (case z => omega))); intro h' F' N') | (k_unfold; (try dsimp only)) | walk1 | (dsimp only; first | ((with_reducible show wpAny _ _ (call (Value.builtin "list.append") _) _ _ _); (k_dflt (refine' append_L ?k1 ?k2 ?k3 ?z ?_; (case k1 => k_asm); (case k2 => k_asm); (case k3 => k_upd); (case z => omega))); intro h' F' N') | walk1) | (leave1; walk_say "STEP leave1"; try dsimp only)) | fail "no step")
      refine ne_intsK (News.isList N4 (.tail _ (.head _))) hI9 (News.isList N4 (.head _)) hys' (by show un + 64 < cLine; omega) ?_
      rw [decide_eq_true (rfl : row = row), Bool.not_true]
      repeat' (first | ((fail_if_success (with_reducible show wpAny _ _ (call (Value.ref _) _) _ _ _)); (fail_if_success (with_reducible show wpAny _ _ (eval (Expr.ListComp _ _ _ _) _) _ _ _)); (fail_if_success (with_reducible show wpAny _ _ (compareOp _ _ _) _ _ _)); first | ((with_reducible show wpAny _ _ (call (Value.builtin "list.append") _) _ _ _); (k_dflt (refine' append_L ?k1 ?k2 ?k3 ?z ?_; (case k1 => k_asm); (case k2 => k_asm); (case k3 => k_upd); (case z => omega))); intro h' F' N') | (k_unfold; (try dsimp only)) | walk1 | (dsimp only; first | ((with_reducible show wpAny _ _ (call (Value.builtin "list.append") _) _ _ _); (k_dflt (refine' append_L ?k1 ?k2 ?k3 ?z ?_; (case k1 => k_asm); (case k2 => k_asm); (case k3 => k_upd); (case z => omega))); intro h' F' N') | walk1) | (leave1; walk_say "STEP leave1"; try dsimp only)) | fail "no step")
      rename News _ _ _ _ => N6
      refine len_S N6 (.tail _ (.tail _ (.tail _ (.tail _ (.tail _ (.head _)))))) htvl (by omega) ?_
      repeat' (first | ((fail_if_success (with_reducible show wpAny _ _ (call (Value.ref _) _) _ _ _)); (fail_if_success (with_reducible show wpAny _ _ (eval (Expr.ListComp _ _ _ _) _) _ _ _)); (fail_if_success (with_reducible show wpAny _ _ (exec (Stmt.Assign _ (Expr.ListComp _ _ _ _) _) _) _ _ _)); first | ((with_reducible show wpAny _ _ (call (Value.builtin "list.append") _) _ _ _); (k_dflt (refine' append_L ?k1 ?k2 ?k3 ?z ?_; (case k1 => k_asm); (case k2 => k_asm); (case k3 => k_upd); (case z => omega))); intro h' F' N') | (k_unfold; (try dsimp only)) | walk1 | (dsimp only; first | ((with_reducible show wpAny _ _ (call (Value.builtin "list.append") _) _ _ _); (k_dflt (refine' append_L ?k1 ?k2 ?k3 ?z ?_; (case k1 => k_asm); (case k2 => k_asm); (case k3 => k_upd); (case z => omega))); intro h' F' N') | walk1) | (leave1; walk_say "STEP leave1"; try dsimp only)) | fail "no step")
      all_goals first | exact absurd hsum (by assumption) | skip
      rename Fr _ _ _ _ => F7; rename News _ _ _ _ => N7
      refine Assign_two (h₀ := g) (L := L) (ls := ls) (ax := lt) (its1 := tv) (its2 := sgv) (F := Glue) (news := (D2, LCg.lst ys) :: (a, listOf vs.toArray 0) :: (D, listOf tl.toArray e2) :: (I, it) :: (L + 1 + 1, oc) :: (lt, listOf tv.toArray e) :: (L + 1, o1) :: (ls, listOf sgv.toArray 0) :: rest)
        F7 rfl rfl (by with_unfolding_all rfl) (by with_unfolding_all rfl) (by decide) rfl (by decide) rfl rfl (by decide) rfl rfl ⟨e, .tail _ (.tail _ (.tail _ (.tail _ (.tail _ (.head _)))))⟩ ⟨0, .tail _ (.tail _ (.tail _ (.tail _ (.tail _ (.tail _ (.tail _ (.head _)))))))⟩ ?hsz ?helt ?hit2 (fun _ _ => rfl) ?hnext
      case hsz =>
        have h1 : sgv.length ≤ 3 := by rw [strs_len hsg, List.length_map]; unfold sgOf; split <;> simp
        have h2 : tv.length * sgv.length ≤ 81 * 3 := Nat.mul_le_mul (by omega) h1
        rw [PySem.sizeLine_eq]; omega
      case helt =>
        intro C v₁ v₂ s' m₂ E' hv1 hv2 hF hn hx hy hN
        obtain ⟨x1, hx1, tx1, rfl⟩ := strs_mem hS v₁ hv1
        obtain ⟨x2, hx2, tx2, rfl⟩ := strs_mem hsg v₂ hv2
        have l1 : x1.length ≤ 4 := by
          obtain ⟨t9, ht9, rfl⟩ := List.mem_map.mp hx1
          rw [S_len, texts_each _ _ t9 ht9]; omega
        have l2 : x2.length ≤ 1 := by
          obtain ⟨c9, _, rfl⟩ := List.mem_map.mp hx2
          rw [S_len]; simp
        exact wpAny_BinOp (wpAny_Name (wpAny_loadName_local rfl (lookup_relabel_local rfl) hn hx (wpAny_Name (wpAny_loadName_local rfl (lookup_relabel_local rfl) hn hy (add_str (fun t' tk => ⟨⟨_, _, _, _, _, rfl, rfl, rfl⟩, tk, rfl⟩) (by rw [PySem.sizeLine_eq]; omega))))))
      case hit2 =>
        intro C s' m₂ E' hF hn hN
        exact wpAny_Name (wpAny_loadName_cell rfl (by rfl) (by rfl) ⟨o1, (hN (L + 1, o1) (.tail _ (.tail _ (.tail _ (.tail _ (.tail _ (.tail _ (.head _)))))))).1, ho1⟩ ⟨rfl, _, rfl⟩)
      case hnext =>
        refine nameX_L F7 rfl ⟨rfl, F7, N7, ?_⟩
        intro D3 h4 tk4 ys3 hg F8 N8 off8
        have hD3I := off8 (I, it) (.tail _ (.tail _ (.tail _ (.head _))))
        have hD3c := off8 (L + 1 + 1, oc) (.tail _ (.tail _ (.tail _ (.tail _ (.head _)))))
        repeat' (first | ((fail_if_success (with_reducible show wpAny _ _ (call (Value.ref _) _) _ _ _)); first | ((with_reducible show wpAny _ _ (call (Value.builtin "list.append") _) _ _ _); (k_dflt (refine' append_L ?k1 ?k2 ?k3 ?z ?_; (case k1 => k_asm); (case k2 => k_asm); (case k3 => k_upd); (case z => omega))); intro h' F' N') | (k_unfold; (try dsimp only)) | walk1 | (dsimp only; first | ((with_reducible show wpAny _ _ (call (Value.builtin "list.append") _) _ _ _); (k_dflt (refine' append_L ?k1 ?k2 ?k3 ?z ?_; (case k1 => k_asm); (case k2 => k_asm); (case k3 => k_upd); (case z => omega))); intro h' F' N') | walk1) | (leave1; walk_say "STEP leave1"; try dsimp only)) | fail "no step")
        dsimp only [TurnPost]
        exact turn_end ⟨ys3, D3, ys3.length, oc⟩ F8 N8 sub_turn (.tail _ (.tail _ (.tail _ (.tail _ (.head _))))) (List.forall_mem_cons.mpr ⟨hI2, List.forall_mem_cons.mpr ⟨Ne.symm hD3I, fun p9 hp9 => hneI p9 (.tail _ (.tail _ hp9))⟩⟩) (by kst_all) (by ksw_same) ⟨grid_texts hsg hg _ hS, ⟨_, dc⟩, Ne.symm hD3c⟩
end
end Mine

end
section
set_option maxRecDepth 100000
set_option maxHeartbeats 8000000
namespace Mine
def NotCell (o : Obj) : Prop := ∀ v, o.data ≠ .cell v
theorem off_cell {g h : Heap} {L X : Addr} {l k : Led} {ox : Obj} {v : Option Value} (N : News g L h l) (hc : (X, ox) ∈ l) (hd : ox.data = .cell v) (hk : ∀ p ∈ k, p ∈ l ∧ NotCell p.2) : ∀ p ∈ k, p.1 ≠ X := by
  intro p hp e
  obtain ⟨h1, h2⟩ := hk p hp
  have a := (N p h1).1
  have b := (N _ hc).1
  rw [e] at a
  simp only at b
  rw [a] at b
  exact h2 v (by rw [Option.some.inj b]; exact hd)
theorem RowsAt.notCell {vr : List Value} {rows : List (List Int)} {led : Led} (h : RowsAt vr rows led) : ∀ p ∈ led, NotCell p.2 := by
  induction h with
  | nil => intro p hp; cases hp
  | cons _ _ ih =>
    intro p hp
    rcases List.mem_cons.mp hp with rfl | hp
    · intro v e; cases e
    · exact ih p hp
theorem Tab.notCell {P : Addr} {pos : Pos} {qual : Str} {tb : Led} (h : Tab P pos qual tb) : ∀ p ∈ tb, NotCell p.2 := by
  cases h with
  | cold => intro p hp; rw [List.mem_singleton.mp hp]; intro v e; cases e
  | warm h1 _ _ =>
    intro p hp
    rcases List.mem_cons.mp hp with rfl | hp
    · intro v e; cases e
    · rw [List.mem_singleton.mp hp]; intro v e; rw [h1] at e; cases e
section
variable {lt lr ls ad c2 c1 : Addr × Obj} {rws tb1 tb2 : Led}
theorem sub_z1 : ∀ p ∈ c2 :: lt :: c1 :: ls :: (lr :: (rws ++ (tb1 ++ tb2))), p ∈ lt :: lr :: (rws ++ (tb1 ++ (tb2 ++ [ls, ad, c2, c1]))) := by
  intro p hp
  simp only [List.mem_append, List.mem_cons, List.not_mem_nil, or_false] at hp ⊢
  rcases hp with h | h | h | h | h | h | h | h <;> simp only [h, true_or, or_true]
end
theorem law_loop (w : World) {scope : Scope} {lawB lb : List Stmt} (hdef : lawParts (Mine.hd.heap_39 w.params) = some (scope, lawB, lb)) {qual : Str} {cdv : Value} {fa : Addr} {f toldL : List Nat} {st : St} {o k : Nat} (ho : o = 1 ∨ o = 2) (hk : 35 ≤ k) (hk2 : k ≤ 1034)
    (hf : f.length ≤ 12) (htl : toldL.length ≤ 12) (hrd : ∀ t, rd (f ++ t) = toldL ++ more st t)
    {p : Program} {loose : List Str} {mean : ExcName → Option Value} {mg mb : Str → Option Value} {dp un : Nat} {gd : Option (List Code)} {outer : List Env} {A₀ : Around} {base g : Heap} {L : Addr}
    (B : Below A₀ base outer g) (X : ((Mine.hd.heap_39 w.params)).In g) (T : Top p loose mean mg mb g) (hd : dp + 60 < recursionLimit) (hu : un + 600 < cLine)
    {m₀ : Str → Option Value} {lt lr ls ad : Addr} {o1 w1 oad : Obj} {sgv : List Value} {t1 t2 tt : Tok} {vr : List Value} {rws tb1 tb2 : Led} {s : Shared} {Q : Flow → Shared → Prop} {E : Value → Shared → Prop}
    (F : Fr g L s.heap m₀) (N : News g L s.heap ((lt, listOf [Value.str (Str.ofString "") tt].toArray 0) :: (lr, LCg.lst vr) :: (rws ++ (tb1 ++ (tb2 ++ [(ls, listOf sgv.toArray 0), (ad, oad), (L + 1 + 1, w1), (L + 1, o1)])))))
    (hsg : StrsAre sgv ((sgOf o k).map fun c => S [c])) (ho1 : o1.data = .cell (some (.ref ls))) (hw1 : w1.data = .cell none) (hrows : RowsAt vr (cnts st o) rws) (hT1 : Tab 30 pos62 q62 tb1) (hT2 : Tab 37 pos69 q69 tb2)
    (hm1 : m₀ (Str.ofString "front") = some (.str (S f) t1)) (hm2 : m₀ (Str.ofString "told") = some (.str (S toldL) t2)) (hm3 : m₀ (Str.ofString "texts") = some (.ref lt))
    (done : ∀ h tk m' news', Fr g L h m' → News g L h news' → (∀ p ∈ tb1, p ∈ news') → (∀ p ∈ tb2, p ∈ news') → Q .next { s with heap := h, toks := tk }) :
    wpAny (model PySem.Challenge.rw_nb0143_02.row.prog w) (ktrTop dp un gd qual scope L fa cdv (cellsFrom (L + 1) scope.names []) outer) (pyIter (.ref lr))
      (fun it s₂ => LoopAtV PySem.Challenge.rw_nb0143_02.row.prog w (ktrTop dp un gd qual scope L fa cdv (cellsFrom (L + 1) scope.names []) outer) g (envX qual scope L fa cdv (cellsFrom (L + 1) scope.names [])) (Str.ofString "row") lb Q E it s₂) E s := by
  have hoff : ∀ p ∈ (lt, listOf [Value.str (Str.ofString "") tt].toArray 0) :: (ls, listOf sgv.toArray 0) :: (lr, LCg.lst vr) :: (rws ++ (tb1 ++ tb2)), p.1 ≠ L + 1 + 1 := by
    refine off_cell N (X := L + 1 + 1) (ox := w1) (.tail _ (.tail _ (List.mem_append_right _ (List.mem_append_right _ (List.mem_append_right _ (.tail _ (.tail _ (.head _)))))))) hw1 fun p9 hp9 => ⟨sub_z1 p9 (by
      simp only [List.mem_append, List.mem_cons] at hp9 ⊢
      rcases hp9 with h | h | h | h | h | h <;> simp only [h, true_or, or_true]), ?_⟩
    simp only [List.mem_append, List.mem_cons] at hp9
    rcases hp9 with rfl | rfl | rfl | h | h | h
    · intro v e; cases e
    · intro v e; cases e
    · intro v e; cases e
    · exact hrows.notCell _ h
    · exact hT1.notCell _ h
    · exact hT2.notCell _ h
  have hlt := hoff _ (.head _)
  have hL2 : ∀ p ∈ (L + 1, o1) :: (ls, listOf sgv.toArray 0) :: ((lr, LCg.lst vr) :: (rws ++ (tb1 ++ tb2))), p.1 ≠ L + 1 + 1 := List.forall_mem_cons.mpr ⟨Nat.ne_of_lt (Nat.lt_succ_self _), fun p9 hp9 => hoff p9 (.tail _ hp9)⟩
  refine iter_list (σ := TS) (l := lr) (lo := LCg.lst vr) (vs := vr) (ledT L ((L + 1, o1) :: (ls, listOf sgv.toArray 0) :: ((lr, LCg.lst vr) :: (rws ++ (tb1 ++ tb2))))) (psT f toldL t1 t2) stT (invT (sgOf o k) L) ⟨[Value.str (Str.ofString "") tt], lt, 0, w1⟩
    rfl rfl (.inl fun c => .tail _ (.tail _ (.tail _ (.tail _ (.head _))))) rfl ⟨_, rfl⟩ F (led_of N sub_z1) ?_ ⟨.cons _ _ .nil, ⟨none, hw1⟩, hlt⟩ ?_ ?_
  · exact List.forall_mem_cons.mpr ⟨hm1, List.forall_mem_cons.mpr ⟨hm2, List.forall_mem_cons.mpr ⟨hm3, fun _ h => nomatch h⟩⟩⟩
  · intro i v c u h tk I it hi hv hP hne hF hN
    exact wpAny_mono (law_turn w hdef ho hk hk2 hf htl hrd B X T hd hu hsg ho1 hrows (fun p9 hp9 => .tail _ (List.mem_append_left _ hp9)) hL2 s i v c u h tk I it hi hv hP hne hF hN) (fun _ _ h => h) (fun _ _ e => e.elim)
  · intro c u h tk hP hF hN
    exact done h tk _ _ hF hN (fun p9 hp9 => .tail _ (.tail _ (.tail _ (.tail _ (.tail _ (List.mem_append_right _ (List.mem_append_left _ hp9))))))) (fun p9 hp9 => .tail _ (.tail _ (.tail _ (.tail _ (.tail _ (List.mem_append_right _ (List.mem_append_right _ hp9)))))))
end Mine

end
section
set_option maxRecDepth 100000
set_option maxHeartbeats 8000000
namespace Mine
theorem tabs_cold : Tabs [(30, tabObj #[])] [(37, tabObj #[])] := ⟨.cold, .cold, fun p hp => by rw [List.mem_singleton.mp hp]; decide, fun p hp => by rw [List.mem_singleton.mp hp]; decide⟩
theorem field_nat (z : Int) : ∃ n : Nat, 5 + ((if z < 0 then -z else z) * 37 + 96).fmod 128 = (n : Int) ∧ 5 ≤ n ∧ n ≤ 132 := by
  generalize (if z < 0 then -z else z) * 37 + 96 = y
  rw [Int.fmod_eq_emod_of_nonneg _ (by decide)]
  exact ⟨(5 + y % 128).toNat, by omega, by omega, by omega⟩
theorem kind_nat (z : Int) : ∃ k : Nat, 35 + (if z < 0 then -z else z).fmod 1000 = (k : Int) ∧ 35 ≤ k ∧ k ≤ 1034 := by
  generalize (if z < 0 then -z else z) = y
  rw [Int.fmod_eq_emod_of_nonneg _ (by decide)]
  exact ⟨(35 + y % 1000).toNat, by omega, by omega, by omega⟩
theorem Tab.grown {P : Addr} {pos : Pos} {qual : Str} {tb l : Led} {g h : Heap} {L : Addr} (hT : Tab P pos qual tb) (N : News g L h l) (hs : ∀ p ∈ tb, p ∈ l) : GrownAt P h := by
  cases hT with
  | cold => exact GrownAt.of N (hs _ (.head _))
  | warm _ _ _ => exact GrownAt.of N (hs _ (.head _))
theorem sub_b2 {a b c d e t1 t2 : Addr × Obj} : ∀ p ∈ [a, c, d, e, t2, t1], p ∈ [a, b, c, d, e, t2, t1] := fun _ hp => (List.mem_cons.mp hp).elim (fun h => h ▸ .head _) (fun h => .tail _ (.tail _ h))
theorem sub_b1 {a c d e t1 t2 : Addr × Obj} : ∀ p ∈ [t1] ++ ([t2] ++ [a, c, d, e]), p ∈ [a, c, d, e, t2, t1] := by
  intro p hp
  simp only [List.mem_append, List.mem_cons, List.not_mem_nil, or_false] at hp ⊢
  rcases hp with h | h | h | h | h | h <;> simp only [h, true_or, or_true]
theorem law_tail (w : World) {scope : Scope} {cb : List Stmt} (hdef : fnParts (Mine.hd.heap_39 w.params) 105 = some (scope, cb)) {qual : Str} {cdv : Value} {fa : Addr} {f toldL : List Nat} {st : St} {o k n : Nat} (ho : o = 1 ∨ o = 2) (hk : 35 ≤ k) (hk2 : k ≤ 1034) (hn5 : 5 ≤ n) (hn132 : n ≤ 132)
    (hf : f.length ≤ 12) (htl : toldL.length ≤ 12) (hrd : ∀ t, rd (f ++ t) = toldL ++ more st t)
    {p : Program} {loose : List Str} {mean : ExcName → Option Value} {mg mb : Str → Option Value} {dp un : Nat} {gd : Option (List Code)} {outer : List Env} {A₀ : Around} {base g : Heap} {L : Addr}
    (B : Below A₀ base outer g) (X : ((Mine.hd.heap_39 w.params)).In g) (T : Top p loose mean mg mb g) (hd : dp + 60 < recursionLimit) (hu : un + 600 < cLine)
    {m₀ : Str → Option Value} {ls ad : Addr} {o1 w1 oad : Obj} {sgv : List Value} {t1 t2 ts tm tn : Tok} {s : Shared} {h₀ : Heap} {tk₀ : Nat} {Q : Flow → Shared → Prop}
    (F : Fr g L h₀ (kstB m₀ [(Str.ofString "front", .str (S f) t1), (Str.ofString "told", .str (S toldL) t2), (Str.ofString "state", .str st.text ts), (Str.ofString "most", .int ((mostOf o : Nat) : Int) tm), (Str.ofString "field", .int (n : Int) tn)]))
    (N : News g L h₀ [(ls, listOf sgv.toArray 0), (ad, oad), (L + 1 + 1, w1), (L + 1, o1), (37, tabObj #[]), (30, tabObj #[])]) (hoff : OffTabs [(ls, listOf sgv.toArray 0), (ad, oad), (L + 1 + 1, w1), (L + 1, o1)])
    (hsg : StrsAre sgv ((sgOf o k).map fun c => S [c])) (ho1 : o1.data = .cell (some (.ref ls))) (hw1 : w1.data = .cell none)
    (done : ∀ h tk m' news', Fr g L h m' → News g L h news' → GrownAt 37 h → GrownAt 30 h → Q (.ret (.bool true)) { s with heap := h, toks := tk }) :
    wpAny (model PySem.Challenge.rw_nb0143_02.row.prog w) (ktrTop dp un gd qual scope L fa cdv (cellsFrom (L + 1) scope.names []) outer) (execs (cb.drop 7) (envX qual scope L fa cdv (cellsFrom (L + 1) scope.names []))) Q (fun _ _ => False) { s with heap := h₀, toks := tk₀ } := by
  revert X
  k_fill
  intro X
  have hdef' : fnParts (Mine.hd.heap_39 w.params) 105 = some _ := rfl
  rw [hdef'] at hdef
  cases hdef
  clear hdef'
  dsimp only [List.drop]
  dsimp only [kstB] at F
  have hl3 : sgv.length = o + 1 := by
    rw [strs_len hsg, List.length_map]; rcases ho with rfl | rfl <;> rfl
  have hm4 : mostOf o ≤ 4 := by unfold mostOf; split <;> omega
  repeat' (first | ((fail_if_success (with_reducible show wpAny _ _ (call (Value.ref _) _) _ _ _)); (fail_if_success (with_reducible show wpAny _ _ (call (Value.builtin "len") _) _ _ _)); first | (k_unfold; (try dsimp only)) | walk1 | (dsimp only; walk1) | (leave1; walk_say "STEP leave1"; try dsimp only)) | fail "no step")
  rename News _ _ _ _ => N7
  refine len_S N7 (.head _) hl3 (by omega) ?_
  repeat' (first | ((fail_if_success (with_reducible show wpAny _ _ (call (Value.ref _) _) _ _ _)); first | (k_unfold; (try dsimp only)) | walk1 | (dsimp only; walk1) | (leave1; walk_say "STEP leave1"; try dsimp only)) | fail "no step")
  rw [show ((o + 1 : Nat) : Int) - 1 = (o : Int) by omega]
  refine CallOk.use (counts_ok _ ho hn5 hn132 tabs_cold hoff) B (by assumption) X (led_of N7 sub_b1) T rfl (by omega) (by omega) ?_
  rintro r6 news6 h6 tk6 F6 N6 ⟨lr, vr, rws, tb1, tb2, rfl, hrows, hT1, hT2, rfl⟩
  have hvl : vr.length = mostOf o + 1 := by rw [hrows.len, cnts_len _ ho]
  repeat' (first | ((fail_if_success (with_reducible show wpAny _ _ (call (Value.ref _) _) _ _ _)); (fail_if_success (with_reducible show wpAny _ _ (call (Value.builtin "len") _) _ _ _)); first | (k_unfold; (try dsimp only)) | walk1 | (dsimp only; walk1) | (leave1; walk_say "STEP leave1"; try dsimp only)) | fail "no step")
  rename News _ _ _ _ => N5
  refine len_S N5 (.head _) hvl (by omega) ?_
  repeat' (first | ((fail_if_success (with_reducible show wpAny _ _ (call (Value.ref _) _) _ _ _)); (fail_if_success (with_reducible show wpAny _ _ (exec (Stmt.For _ _ _ _ _) _) _ _ _)); first | (k_unfold; (try dsimp only)) | walk1 | (dsimp only; walk1) | (leave1; walk_say "STEP leave1"; try dsimp only)) | fail "no step")
  · exfalso; omega
  rename Fr _ _ _ _ => F8
  refine For_invVF F8 rfl rfl ?_ (fun _ => rfl) (by passes_own)
  repeat' (first | ((fail_if_success (with_reducible show wpAny _ _ (pyIter _) _ _ _)); first | (k_unfold; (try dsimp only)) | walk1 | (dsimp only; walk1) | (leave1; walk_say "STEP leave1"; try dsimp only)) | fail "no step")
  rename News _ _ _ _ => N4; rename Fr _ _ _ _ => F4
  refine law_loop _ rfl ho hk hk2 hf htl hrd B X T hd hu F4 N4 hsg ho1 hw1 hrows hT1 hT2 rfl rfl rfl ?_
  intro h4 tk4 m4 news4 F3 N3 ht1 ht2
  iterate 3 (first | (k_unfold; (try dsimp only)) | walk1 | (dsimp only; walk1))
  exact done _ _ _ _ F3 N3 (hT2.grown N3 ht2) (hT1.grown N3 ht1)
theorem law2 : PySem.Challenge.rw_nb0143_02.Holds := hd (by
  k_go0
  all_goals try k_fold
  rename IntsAre _ _ => hI
  rename Below _ _ _ _ => B
  rename Frag.In _ (ghostOf _ _) => X
  rename Top _ _ _ _ _ (ghostOf _ _) => T
  rename (¬ _ < _) => hlen
  rename List Int => ns
  rename (Obj.data _ = Data.cell _) => d2
  replace d2 : _ = Data.cell none := d2
  revert d2
  rename (Obj.data _ = Data.cell _) => d1
  replace d1 : _ = Data.cell none := d1
  intro d2
  repeat' (first | ((fail_if_success (with_reducible show wpAny _ _ (call (Value.ref _) _) _ _ _)); first | (k_unfold; (try dsimp only)) | walk1 | (dsimp only; walk1) | (leave1; walk_say "STEP leave1"; try dsimp only)) | fail "no step")
  refine CallOkH.use (front_ok _ hI (by omega)) B (by assumption) X (by assumption) (ListAt.of (by assumption)) T rfl (by decide) (by decide) ?_
  rintro r9 news9 h9 tk9 F9 N9 ⟨t9, rfl, rfl⟩
  have hf : (frontOf (ns.take 6)).length ≤ 12 := by
    have h1 := front_len (ns.take 6)
    rw [List.length_take] at h1; omega
  generalize frontOf (ns.take 6) = f at *
  repeat' (first | ((fail_if_success (with_reducible show wpAny _ _ (call (Value.ref _) _) _ _ _)); first | (k_unfold; (try dsimp only)) | walk1 | (dsimp only; walk1) | (leave1; walk_say "STEP leave1"; try dsimp only)) | fail "no step")
  refine CallOk.use (state_ok _ (by omega)) B (by assumption) X (by assumption) T rfl (by decide) (by decide) ?_
  rintro r8 news8 h8 tk8 F8 N8 ⟨ad, u1, u2, rfl, rfl, hl8⟩
  have q1 := ltN (hl8 _ (.head _))
  have q2 := ltN (hl8 _ (.tail _ (.head _)))
  have q3 := ltN (hl8 _ (.tail _ (.tail _ (.head _))))
  have q4 := ltN (hl8 _ (.tail _ (.tail _ (.tail _ (.head _)))))
  dsimp only at q1 q2 q3 q4
  have hrd := fun t => (rd_go f t).1
  have htl : (go f false).1.length ≤ 12 := by
    have h1 := hrd []
    have h2 := rd_len _ (f ++ []) (Nat.le_refl _)
    rw [h1, List.length_append, List.append_nil] at h2
    omega
  generalize (go f false).1 = toldL at *
  generalize (go f false).2 = st at *
  obtain ⟨n, hn, hn5, hn132⟩ := field_nat ns.sum
  obtain ⟨k, hk, hk1, hk2⟩ := kind_nat ns.sum
  repeat' (first | ((fail_if_success (with_reducible show wpAny _ _ (call (Value.ref _) _) _ _ _)); (fail_if_success (with_reducible show wpAny _ _ (execs [_, _, _, _, _] _) _ _ _)); first | (k_unfold; (try dsimp only)) | walk1 | (dsimp only; walk1) | (leave1; walk_say "STEP leave1"; try dsimp only)) | fail "no step")
  · rename News _ _ _ _ => N7; rename Fr _ _ _ _ => F7
    rename (_ = Data.cell (some _)) => dsg
    rw [hn] at F7
    rw [hk] at N7
    refine wpAny_mono (law_tail _ rfl (o := 2) (k := k) (n := n) (.inr rfl) hk1 hk2 hn5 hn132 hf htl hrd B X T ?hd1 ?hu1 (fr_kst F7 (List.forall_mem_cons.mpr ⟨rfl, List.forall_mem_cons.mpr ⟨rfl, List.forall_mem_cons.mpr ⟨rfl, List.forall_mem_cons.mpr ⟨rfl, List.forall_mem_cons.mpr ⟨rfl, fun _ h => nomatch h⟩⟩⟩⟩⟩)) (led_of N7 sub_b2) ?hoff (.cons _ _ (.cons _ _ (.cons _ _ .nil))) dsg d1 ?done) (fun _ _ h => h) (fun _ _ e => e.elim)
    case hd1 => decide
    case hu1 => decide
    case hoff => exact List.forall_mem_cons.mpr ⟨⟨neN (by dsimp only; omega), neN (by dsimp only; omega)⟩, List.forall_mem_cons.mpr ⟨⟨neN (by dsimp only; omega), neN (by dsimp only; omega)⟩, List.forall_mem_cons.mpr ⟨⟨neN (by dsimp only; omega), neN (by dsimp only; omega)⟩, List.forall_mem_cons.mpr ⟨⟨neN (by dsimp only; omega), neN (by dsimp only; omega)⟩, fun _ h => nomatch h⟩⟩⟩⟩
    intro h4 tk4 m4 news4 F3 N3 gr1 gr2
    iterate 1 (first | (k_unfold; (try dsimp only)) | walk1 | (dsimp only; walk1))
    · k_end
      wrow_close
    · exact ⟨gr1, gr2, trivial⟩
  · rename News _ _ _ _ => N7; rename Fr _ _ _ _ => F7
    rename (_ = Data.cell (some _)) => dsg
    rw [hn] at F7
    rw [hk] at N7
    refine wpAny_mono (law_tail _ rfl (o := 1) (k := k) (n := n) (.inl rfl) hk1 hk2 hn5 hn132 hf htl hrd B X T ?hd2 ?hu2 (fr_kst F7 (List.forall_mem_cons.mpr ⟨rfl, List.forall_mem_cons.mpr ⟨rfl, List.forall_mem_cons.mpr ⟨rfl, List.forall_mem_cons.mpr ⟨rfl, List.forall_mem_cons.mpr ⟨rfl, fun _ h => nomatch h⟩⟩⟩⟩⟩)) N7 ?hoff2 (.cons _ _ (.cons _ _ .nil)) dsg d1 ?done2) (fun _ _ h => h) (fun _ _ e => e.elim)
    case hd2 => decide
    case hu2 => decide
    case hoff2 => exact List.forall_mem_cons.mpr ⟨⟨neN (by dsimp only; omega), neN (by dsimp only; omega)⟩, List.forall_mem_cons.mpr ⟨⟨neN (by dsimp only; omega), neN (by dsimp only; omega)⟩, List.forall_mem_cons.mpr ⟨⟨neN (by dsimp only; omega), neN (by dsimp only; omega)⟩, List.forall_mem_cons.mpr ⟨⟨neN (by dsimp only; omega), neN (by dsimp only; omega)⟩, fun _ h => nomatch h⟩⟩⟩⟩
    intro h4 tk4 m4 news4 F3 N3 gr1 gr2
    iterate 1 (first | (k_unfold; (try dsimp only)) | walk1 | (dsimp only; walk1))
    · k_end
      wrow_close
    · exact ⟨gr1, gr2, trivial⟩
  )
end Mine

end
set_option maxRecDepth 100000 in
set_option maxHeartbeats 8000000 in
theorem PySem.Challenge.cw_nb0143_02_holds : PySem.Challenge.rw_nb0143_02.Holds := by
  exact Mine.law2
