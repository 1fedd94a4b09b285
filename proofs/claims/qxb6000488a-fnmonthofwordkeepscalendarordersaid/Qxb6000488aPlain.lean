import Derived.Test.Qxb6000488aBits
set_option linter.unusedVariables false
namespace Go.Proofs.Qxb6000488a.MonthP

theorem and_j (a b s t : Nat) (ha : a < 256) (hb : b < 256) : (a + 256 * s) &&& (b + 256 * t) = (a &&& b) + 256 * (s &&& t) := by
  have h1 : ((a + 256 * s) &&& (b + 256 * t)) / 2 ^ 8 = s &&& t := by
    rw [Nat.and_div_two_pow, show (a + 256 * s) / 2 ^ 8 = s by omega, show (b + 256 * t) / 2 ^ 8 = t by omega]
  have h2 : ((a + 256 * s) &&& (b + 256 * t)) % 2 ^ 8 = a &&& b := by
    rw [Nat.and_mod_two_pow, show (a + 256 * s) % 2 ^ 8 = a by omega, show (b + 256 * t) % 2 ^ 8 = b by omega]
  have h3 := Nat.div_add_mod ((a + 256 * s) &&& (b + 256 * t)) (2 ^ 8)
  rw [h1, h2] at h3
  omega

theorem or_j (a b s t : Nat) (ha : a < 256) (hb : b < 256) : (a + 256 * s) ||| (b + 256 * t) = (a ||| b) + 256 * (s ||| t) := by
  have h1 : ((a + 256 * s) ||| (b + 256 * t)) / 2 ^ 8 = s ||| t := by
    rw [Nat.or_div_two_pow, show (a + 256 * s) / 2 ^ 8 = s by omega, show (b + 256 * t) / 2 ^ 8 = t by omega]
  have h2 : ((a + 256 * s) ||| (b + 256 * t)) % 2 ^ 8 = a ||| b := by
    rw [Nat.or_mod_two_pow, show (a + 256 * s) % 2 ^ 8 = a by omega, show (b + 256 * t) % 2 ^ 8 = b by omega]
  have h3 := Nat.div_add_mod ((a + 256 * s) ||| (b + 256 * t)) (2 ^ 8)
  rw [h1, h2] at h3
  omega

/-- Eight bytes as one number, the first the least. -/
def by8 (a b c d e f g h : Nat) : Nat := a + 256 * (b + 256 * (c + 256 * (d + 256 * (e + 256 * (f + 256 * (g + 256 * h))))))

theorem and8 (a b c d e f g h a' b' c' d' e' f' g' h' : Nat) (ha : a < 256) (hb : b < 256) (hc : c < 256) (hd : d < 256) (he : e < 256) (hf : f < 256) (hg : g < 256) (ha' : a' < 256) (hb' : b' < 256) (hc' : c' < 256) (hd' : d' < 256) (he' : e' < 256) (hf' : f' < 256) (hg' : g' < 256) :
    by8 a b c d e f g h &&& by8 a' b' c' d' e' f' g' h' = by8 (a &&& a') (b &&& b') (c &&& c') (d &&& d') (e &&& e') (f &&& f') (g &&& g') (h &&& h') := by
  unfold by8
  rw [and_j _ _ _ _ ha ha', and_j _ _ _ _ hb hb', and_j _ _ _ _ hc hc', and_j _ _ _ _ hd hd', and_j _ _ _ _ he he', and_j _ _ _ _ hf hf', and_j _ _ _ _ hg hg']

theorem or8 (a b c d e f g h a' b' c' d' e' f' g' h' : Nat) (ha : a < 256) (hb : b < 256) (hc : c < 256) (hd : d < 256) (he : e < 256) (hf : f < 256) (hg : g < 256) (ha' : a' < 256) (hb' : b' < 256) (hc' : c' < 256) (hd' : d' < 256) (he' : e' < 256) (hf' : f' < 256) (hg' : g' < 256) :
    by8 a b c d e f g h ||| by8 a' b' c' d' e' f' g' h' = by8 (a ||| a') (b ||| b') (c ||| c') (d ||| d') (e ||| e') (f ||| f') (g ||| g') (h ||| h') := by
  unfold by8
  rw [or_j _ _ _ _ ha ha', or_j _ _ _ _ hb hb', or_j _ _ _ _ hc hc', or_j _ _ _ _ hd hd', or_j _ _ _ _ he he', or_j _ _ _ _ hf hf', or_j _ _ _ _ hg hg']

theorem highs8 : (36169536663224448 : Nat) = by8 128 128 128 128 0 128 128 0 := by simp [by8]
theorem lows8 : (18410574537046327167 : Nat) = by8 127 127 127 127 255 127 127 255 := by simp [by8]
theorem dash8 : (1095216660480 : Nat) = by8 0 0 0 0 255 0 0 0 := by simp [by8]

theorem b_or : ∀ d, d < 10 → (48 + d) ||| 128 = 176 + d := by decide
theorem b_and : ∀ d, d < 10 → (128 + d) &&& 128 = 128 := by decide
theorem b_low : ∀ d, d < 10 → (48 + d) &&& 127 = 48 + d := by decide
theorem b_nine : ∀ d, d < 10 → ((118 + d) ||| (48 + d)) &&& 128 = 0 := by decide
theorem b_or256 : ∀ d, d < 10 → ((118 + d) ||| (48 + d)) < 256 := by decide
theorem b_byte (l : Nat) (h : l < 256) : l &&& 255 = l := by rw [nat_mask8]; omega

/-- The word that zzWord writes, digit by digit. -/
def wd (d0 d1 d2 d3 e0 e1 l : Nat) : Nat := by8 (48 + d0) (48 + d1) (48 + d2) (48 + d3) 45 (48 + e0) (48 + e1) l

theorem wd_lt (d0 d1 d2 d3 e0 e1 l : Nat) (h0 : d0 < 10) (h1 : d1 < 10) (h2 : d2 < 10) (h3 : d3 < 10) (h5 : e0 < 10) (h6 : e1 < 10) (hl : l < 256) : wd d0 d1 d2 d3 e0 e1 l < 18446744073709551616 := by unfold wd by8; omega

theorem wd_or (d0 d1 d2 d3 e0 e1 l : Nat) (h0 : d0 < 10) (h1 : d1 < 10) (h2 : d2 < 10) (h3 : d3 < 10) (h5 : e0 < 10) (h6 : e1 < 10) (hl : l < 256) : bits .or .u64 ((wd d0 d1 d2 d3 e0 e1 l : Nat) : Int) 36169536663224448 = ((by8 (176 + d0) (176 + d1) (176 + d2) (176 + d3) 45 (176 + e0) (176 + e1) l : Nat) : Int) := by
  have hx := wd_lt d0 d1 d2 d3 e0 e1 l h0 h1 h2 h3 h5 h6 hl
  have e := u64_or_nat (wd d0 d1 d2 d3 e0 e1 l) 36169536663224448 hx (by omega)
  refine e.trans ?_
  rw [highs8, wd, or8 _ _ _ _ _ _ _ _ _ _ _ _ _ _ _ _ (by omega) (by omega) (by omega) (by omega) (by omega) (by omega) (by omega) (by omega) (by omega) (by omega) (by omega) (by omega) (by omega) (by omega),
    b_or d0 h0, b_or d1 h1, b_or d2 h2, b_or d3 h3, b_or e0 h5, b_or e1 h6, Nat.or_zero, Nat.or_zero]

theorem wd_e3 (d0 d1 d2 d3 e0 e1 l : Nat) (h0 : d0 < 10) (h1 : d1 < 10) (h2 : d2 < 10) (h3 : d3 < 10) (h5 : e0 < 10) (h6 : e1 < 10) (hl : l < 256) : bits .and .u64 (IntKind.u64.wrap (bits .or .u64 ((wd d0 d1 d2 d3 e0 e1 l : Nat) : Int) 36169536663224448 - 13563576248709168)) 36169536663224448 = 36169536663224448 := by
  rw [wd_or d0 d1 d2 d3 e0 e1 l h0 h1 h2 h3 h5 h6 hl]
  have e : IntKind.u64.wrap (((by8 (176 + d0) (176 + d1) (176 + d2) (176 + d3) 45 (176 + e0) (176 + e1) l : Nat) : Int) - 13563576248709168) = ((by8 (128 + d0) (128 + d1) (128 + d2) (128 + d3) 45 (128 + e0) (128 + e1) l : Nat) : Int) := by
    rw [IntKind.wrap_u64]; unfold by8; omega
  rw [e]
  have hx : by8 (128 + d0) (128 + d1) (128 + d2) (128 + d3) 45 (128 + e0) (128 + e1) l < 18446744073709551616 := by unfold by8; omega
  have e' := u64_and_nat _ 36169536663224448 hx (by omega)
  refine e'.trans ?_
  rw [highs8, and8 _ _ _ _ _ _ _ _ _ _ _ _ _ _ _ _ (by omega) (by omega) (by omega) (by omega) (by omega) (by omega) (by omega) (by omega) (by omega) (by omega) (by omega) (by omega) (by omega) (by omega),
    b_and d0 h0, b_and d1 h1, b_and d2 h2, b_and d3 h3, b_and e0 h5, b_and e1 h6, Nat.and_zero, Nat.and_zero]
  unfold by8; omega

theorem wd_not (d0 d1 d2 d3 e0 e1 l : Nat) (h0 : d0 < 10) (h1 : d1 < 10) (h2 : d2 < 10) (h3 : d3 < 10) (h5 : e0 < 10) (h6 : e1 < 10) (hl : l < 256) : bits .andNot .u64 ((wd d0 d1 d2 d3 e0 e1 l : Nat) : Int) 36169536663224448 = ((wd d0 d1 d2 d3 e0 e1 l : Nat) : Int) := by
  have hx := wd_lt d0 d1 d2 d3 e0 e1 l h0 h1 h2 h3 h5 h6 hl
  have e := u64_andNot_nat (wd d0 d1 d2 d3 e0 e1 l) 36169536663224448 hx (by omega)
  refine e.trans ?_
  rw [show (18446744073709551615 - 36169536663224448 : Nat) = 18410574537046327167 from by omega, lows8, wd,
    and8 _ _ _ _ _ _ _ _ _ _ _ _ _ _ _ _ (by omega) (by omega) (by omega) (by omega) (by omega) (by omega) (by omega) (by omega) (by omega) (by omega) (by omega) (by omega) (by omega) (by omega),
    b_low d0 h0, b_low d1 h1, b_low d2 h2, b_low d3 h3, b_low e0 h5, b_low e1 h6, b_byte 45 (by omega), b_byte l hl]

theorem wd_e7 (d0 d1 d2 d3 e0 e1 l : Nat) (h0 : d0 < 10) (h1 : d1 < 10) (h2 : d2 < 10) (h3 : d3 < 10) (h5 : e0 < 10) (h6 : e1 < 10) (hl : l < 256) : bits .and .u64 (bits .or .u64 (IntKind.u64.wrap (bits .andNot .u64 ((wd d0 d1 d2 d3 e0 e1 l : Nat) : Int) 36169536663224448 + 5063812098665367110)) ((wd d0 d1 d2 d3 e0 e1 l : Nat) : Int)) 36169536663224448 = 0 := by
  rw [wd_not d0 d1 d2 d3 e0 e1 l h0 h1 h2 h3 h5 h6 hl]
  have hx := wd_lt d0 d1 d2 d3 e0 e1 l h0 h1 h2 h3 h5 h6 hl
  have e : IntKind.u64.wrap (((wd d0 d1 d2 d3 e0 e1 l : Nat) : Int) + 5063812098665367110) = ((by8 (118 + d0) (118 + d1) (118 + d2) (118 + d3) 115 (118 + e0) (118 + e1) ((l + 70) % 256) : Nat) : Int) := by
    rw [IntKind.wrap_u64]; unfold wd by8; omega
  rw [e]
  have hy : by8 (118 + d0) (118 + d1) (118 + d2) (118 + d3) 115 (118 + e0) (118 + e1) ((l + 70) % 256) < 18446744073709551616 := by unfold by8; omega
  have e' := u64_or_nat _ _ hy hx
  rw [e']
  have hz := Nat.or_lt_two_pow (n := 64) hy hx
  have e2 := u64_and_nat _ 36169536663224448 hz (by omega)
  refine e2.trans ?_
  rw [highs8, wd, or8 _ _ _ _ _ _ _ _ _ _ _ _ _ _ _ _ (by omega) (by omega) (by omega) (by omega) (by omega) (by omega) (by omega) (by omega) (by omega) (by omega) (by omega) (by omega) (by omega) (by omega),
    and8 _ _ _ _ _ _ _ _ _ _ _ _ _ _ _ _ (b_or256 d0 h0) (b_or256 d1 h1) (b_or256 d2 h2) (b_or256 d3 h3) (by decide) (b_or256 e0 h5) (b_or256 e1 h6) (by omega) (by omega) (by omega) (by omega) (by omega) (by omega) (by omega),
    b_nine d0 h0, b_nine d1 h1, b_nine d2 h2, b_nine d3 h3, b_nine e0 h5, b_nine e1 h6, Nat.and_zero, Nat.and_zero]
  rfl

theorem wd_e8 (d0 d1 d2 d3 e0 e1 l : Nat) (h0 : d0 < 10) (h1 : d1 < 10) (h2 : d2 < 10) (h3 : d3 < 10) (h5 : e0 < 10) (h6 : e1 < 10) (hl : l < 256) : bits .and .u64 ((wd d0 d1 d2 d3 e0 e1 l : Nat) : Int) 1095216660480 = 193273528320 := by
  have hx := wd_lt d0 d1 d2 d3 e0 e1 l h0 h1 h2 h3 h5 h6 hl
  have e := u64_and_nat (wd d0 d1 d2 d3 e0 e1 l) 1095216660480 hx (by omega)
  refine e.trans ?_
  rw [dash8, wd, and8 _ _ _ _ _ _ _ _ _ _ _ _ _ _ _ _ (by omega) (by omega) (by omega) (by omega) (by omega) (by omega) (by omega) (by omega) (by omega) (by omega) (by omega) (by omega) (by omega) (by omega)]
  simp only [Nat.and_zero]
  rw [b_byte 45 (by omega)]
  unfold by8; omega

theorem wd_e9 (d0 d1 d2 d3 e0 e1 l : Nat) (h0 : d0 < 10) (h1 : d1 < 10) (h2 : d2 < 10) (h3 : d3 < 10) (h5 : e0 < 10) (h6 : e1 < 10) (hl : l < 256) : IntKind.u64.wrap (((wd d0 d1 d2 d3 e0 e1 l : Nat) : Int) - 13563576248709168) = ((by8 d0 d1 d2 d3 45 e0 e1 l : Nat) : Int) := by
  rw [IntKind.wrap_u64]; unfold wd by8; omega

theorem and255 (n : Nat) (h : n < 18446744073709551616) : bits .and .u64 (n : Int) 255 = ((n % 256 : Nat) : Int) := by
  have e := u64_and_nat n 255 h (by omega)
  refine e.trans ?_
  rw [nat_mask8]

theorem low_byte (D s c : Nat) (hD : D < 18446744073709551616) (h : D / s % 256 = c) : bits .and .u64 ((D : Int) / (s : Int)) 255 = (c : Int) := by
  have e : (D : Int) / (s : Int) = ((D / s : Nat) : Int) := by simp
  rw [e, and255 _ (by have := Nat.div_le_self D s; omega), h]

theorem by8_lt (d0 d1 d2 d3 e0 e1 l : Nat) (h0 : d0 < 10) (h1 : d1 < 10) (h2 : d2 < 10) (h3 : d3 < 10) (h5 : e0 < 10) (h6 : e1 < 10) (hl : l < 256) : by8 d0 d1 d2 d3 45 e0 e1 l < 18446744073709551616 := by unfold by8; omega
theorem f0 (d0 d1 d2 d3 e0 e1 l : Nat) (h0 : d0 < 10) (h1 : d1 < 10) (h2 : d2 < 10) (h3 : d3 < 10) (h5 : e0 < 10) (h6 : e1 < 10) (hl : l < 256) : bits .and .u64 ((by8 d0 d1 d2 d3 45 e0 e1 l : Nat) : Int) 255 = (d0 : Int) := by
  rw [and255 _ (by8_lt d0 d1 d2 d3 e0 e1 l h0 h1 h2 h3 h5 h6 hl)]; unfold by8; omega
theorem f1 (d0 d1 d2 d3 e0 e1 l : Nat) (h0 : d0 < 10) (h1 : d1 < 10) (h2 : d2 < 10) (h3 : d3 < 10) (h5 : e0 < 10) (h6 : e1 < 10) (hl : l < 256) : bits .and .u64 (((by8 d0 d1 d2 d3 45 e0 e1 l : Nat) : Int) / 256) 255 = (d1 : Int) :=
  low_byte _ 256 _ (by8_lt d0 d1 d2 d3 e0 e1 l h0 h1 h2 h3 h5 h6 hl) (by unfold by8; omega)
theorem f2 (d0 d1 d2 d3 e0 e1 l : Nat) (h0 : d0 < 10) (h1 : d1 < 10) (h2 : d2 < 10) (h3 : d3 < 10) (h5 : e0 < 10) (h6 : e1 < 10) (hl : l < 256) : bits .and .u64 (((by8 d0 d1 d2 d3 45 e0 e1 l : Nat) : Int) / 65536) 255 = (d2 : Int) :=
  low_byte _ 65536 _ (by8_lt d0 d1 d2 d3 e0 e1 l h0 h1 h2 h3 h5 h6 hl) (by unfold by8; omega)
theorem f3 (d0 d1 d2 d3 e0 e1 l : Nat) (h0 : d0 < 10) (h1 : d1 < 10) (h2 : d2 < 10) (h3 : d3 < 10) (h5 : e0 < 10) (h6 : e1 < 10) (hl : l < 256) : bits .and .u64 (((by8 d0 d1 d2 d3 45 e0 e1 l : Nat) : Int) / 16777216) 255 = (d3 : Int) :=
  low_byte _ 16777216 _ (by8_lt d0 d1 d2 d3 e0 e1 l h0 h1 h2 h3 h5 h6 hl) (by unfold by8; omega)
theorem f5 (d0 d1 d2 d3 e0 e1 l : Nat) (h0 : d0 < 10) (h1 : d1 < 10) (h2 : d2 < 10) (h3 : d3 < 10) (h5 : e0 < 10) (h6 : e1 < 10) (hl : l < 256) : bits .and .u64 (((by8 d0 d1 d2 d3 45 e0 e1 l : Nat) : Int) / 1099511627776) 255 = (e0 : Int) :=
  low_byte _ 1099511627776 _ (by8_lt d0 d1 d2 d3 e0 e1 l h0 h1 h2 h3 h5 h6 hl) (by unfold by8; omega)
theorem f6 (d0 d1 d2 d3 e0 e1 l : Nat) (h0 : d0 < 10) (h1 : d1 < 10) (h2 : d2 < 10) (h3 : d3 < 10) (h5 : e0 < 10) (h6 : e1 < 10) (hl : l < 256) : bits .and .u64 (((by8 d0 d1 d2 d3 45 e0 e1 l : Nat) : Int) / 281474976710656) 255 = (e1 : Int) :=
  low_byte _ 281474976710656 _ (by8_lt d0 d1 d2 d3 e0 e1 l h0 h1 h2 h3 h5 h6 hl) (by unfold by8; omega)

/-- What zzWord returns, by the digits. -/
theorem acc_wd (y n l : Nat) (hy : y ≤ 9999) (hn : n ≤ 99) (hl : l < 256) :
    acc (y : Int) (n : Int) (l : Int) 8 = ((wd (y / 1000) (y / 100 % 10) (y / 10 % 10) (y % 10) (n / 10) (n % 10) l : Nat) : Int) := by
  simp only [acc, wd, by8, Int.natCast_add, Int.natCast_mul, Int.natCast_ediv, Int.natCast_emod, Int.cast_ofNat_Int]; omega
end Go.Proofs.Qxb6000488a.MonthP
