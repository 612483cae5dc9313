import PyProof.Rows.All
import Wide.All
import OpenK.AllK
import Wide.FinOn
import Lean
import PySem.Challenge.RW_iw0015_01
section
namespace Mine
def leap (y : Int) : Bool := decide (y.fmod 4 = 0 ∧ (y.fmod 100 ≠ 0 ∨ y.fmod 400 = 0))
def tab (m : Int) : Int := [31, 28, 31, 30, 31, 30, 31, 31, 30, 31, 30, 31].getD (m - 1).toNat 0
def dlen (y m : Int) : Int := if m = 2 ∧ leap y = true then 29 else tab m
theorem tab_le (m : Int) : tab m ≤ 31 := by
  unfold tab
  have h : ∀ n : Nat, [31, 28, 31, 30, 31, 30, 31, 31, 30, 31, 30, 31].getD n (0 : Int) ≤ 31 := by
    intro n
    by_cases hn : n < 12
    · have : ∀ n : Fin 12, [31, 28, 31, 30, 31, 30, 31, 31, 30, 31, 30, 31].getD n.1 (0 : Int) ≤ 31 := by decide
      exact this ⟨n, hn⟩
    · have e : ([31, 28, 31, 30, 31, 30, 31, 31, 30, 31, 30, 31] : List Int)[n]? = none := List.getElem?_eq_none (by simp only [List.length_cons, List.length_nil]; omega)
      unfold List.getD
      rw [e]; decide
  exact h _
theorem dlen_le (y m : Int) : dlen y m ≤ 31 := by
  unfold dlen
  have := tab_le m
  split <;> omega
def TimeOk (h mi se : Int) : Prop := 0 ≤ h ∧ h ≤ 23 ∧ 0 ≤ mi ∧ mi ≤ 59 ∧ 0 ≤ se ∧ se ≤ 59
def DateOk (y m d : Int) : Prop := 1 ≤ y ∧ y ≤ 9999 ∧ 1 ≤ m ∧ m ≤ 12 ∧ 1 ≤ d ∧ d ≤ dlen y m
instance {h mi se : Int} : Decidable (TimeOk h mi se) := by unfold TimeOk; infer_instance
instance {y m d : Int} : Decidable (DateOk y m d) := by unfold DateOk; infer_instance
def wY (z : Int) : Int := z / 512 % 128 + 1980
def wM (z : Int) : Int := z / 32 % 16
def wD (z : Int) : Int := z % 32
def dY (z : Int) : Int := if DateOk (wY z) (wM z) (wD z) then wY z else 1980
def dM (z : Int) : Int := if DateOk (wY z) (wM z) (wD z) then wM z else 1
def dD (z : Int) : Int := if DateOk (wY z) (wM z) (wD z) then wD z else 1
def wH (z : Int) : Int := z / 2048 % 32
def wMi (z : Int) : Int := z / 32 % 64
def wS (z : Int) : Int := z % 32 * 2
def tH (z : Int) : Int := if TimeOk (wH z) (wMi z) (wS z) then wH z else 0
def tM (z : Int) : Int := if TimeOk (wH z) (wMi z) (wS z) then wMi z else 0
def tS (z : Int) : Int := if TimeOk (wH z) (wMi z) (wS z) then wS z else 0
theorem d_ok {z : Int} (h : DateOk (wY z) (wM z) (wD z)) : dY z = wY z ∧ dM z = wM z ∧ dD z = wD z := by unfold dY dM dD; simp [h]
theorem d_bad {z : Int} (h : ¬ DateOk (wY z) (wM z) (wD z)) : dY z = 1980 ∧ dM z = 1 ∧ dD z = 1 := by unfold dY dM dD; simp [h]
theorem t_ok {z : Int} (h : TimeOk (wH z) (wMi z) (wS z)) : tH z = wH z ∧ tM z = wMi z ∧ tS z = wS z := by unfold tH tM tS; simp [h]
theorem t_bad {z : Int} (h : ¬ TimeOk (wH z) (wMi z) (wS z)) : tH z = 0 ∧ tM z = 0 ∧ tS z = 0 := by unfold tH tM tS; simp [h]
theorem first_ok : DateOk 1980 1 1 := by decide
theorem zero_ok : TimeOk 0 0 0 := by decide
theorem d_isok (z : Int) : DateOk (dY z) (dM z) (dD z) := by
  by_cases h : DateOk (wY z) (wM z) (wD z)
  · obtain ⟨a, b, c⟩ := d_ok h; rw [a, b, c]; exact h
  · obtain ⟨a, b, c⟩ := d_bad h; rw [a, b, c]; exact first_ok
theorem t_isok (z : Int) : TimeOk (tH z) (tM z) (tS z) := by
  by_cases h : TimeOk (wH z) (wMi z) (wS z)
  · obtain ⟨a, b, c⟩ := t_ok h; rw [a, b, c]; exact h
  · obtain ⟨a, b, c⟩ := t_bad h; rw [a, b, c]; exact zero_ok
end Mine
end
section
open PySem PySem.W PyProof.Rows
set_option Elab.async false
namespace Mine
abbrev aTop (hd : Option Value) (dp un : Nat) (gd : Option (List Code)) (cn : Str) (cs : Scope) (L a : Addr) (ccd : Value) (cl : List (Str × Addr)) (outer : List Env) : Around := { handled := hd, depth := dp, frames := some (envX cn cs L a ccd cl :: outer), guards := gd, units := un }
theorem aTop_depth {hd : Option Value} {dp un : Nat} {gd : Option (List Code)} {cn : Str} {cs : Scope} {L a : Addr} {ccd : Value} {cl : List (Str × Addr)} {outer : List Env} : (aTop hd dp un gd cn cs L a ccd cl outer).depth = dp := rfl
theorem aTop_units {hd : Option Value} {dp un : Nat} {gd : Option (List Code)} {cn : Str} {cs : Scope} {L a : Addr} {ccd : Value} {cl : List (Str × Addr)} {outer : List Env} : (aTop hd dp un gd cn cs L a ccd cl outer).units = un := rfl
theorem ite_nt {P Q : Prop} (h : Q) : if (!true) = true then P else Q := h
theorem ite_nf {P Q : Prop} (h : P) : if (!false) = true then P else Q := h
theorem ite_t {P Q : Prop} (h : P) : if true = true then P else Q := h
theorem ite_f {P Q : Prop} (h : Q) : if false = true then P else Q := h
abbrev ent (w : World) (x : Str) (k : Tok) (v : Value) : DictEntry := ⟨PyData.keyHash w.params x, .str x k, v⟩
theorem gen_toks {α : Type} {M : Model} {A : Around} {t : Sem α} {Q : α → Shared → Prop} {E : Value → Shared → Prop} {h : Heap} {g : Array GenState} {d : Drawn} {X : Nat} {o : OsState} (k : ∀ tk, wpAny M A t Q E ⟨h, g, d, tk, o⟩) : wpAny M A t Q E ⟨h, g, d, X, o⟩ := k X
theorem raised_sub {base : Heap} {l : List Env} {e : Addr} {cls : Value} {t : Addr} {vs : List Value} {news news' : List (Addr × Obj)} {h : Heap} (R : RaisedK base l e cls t vs news h) (hs : ∀ p ∈ news', p ∈ news) : RaisedK base l e cls t vs news' h :=
  let ⟨⟨B, a, b, c⟩, d⟩ := R
  ⟨⟨B, a, fun q hq => b q (hs q hq), c⟩, d⟩
theorem news_drop {h₀ h : Heap} {L : Addr} {news news' : List (Addr × Obj)} (N : News h₀ L h news') (hs : ∀ p ∈ news, p ∈ news') : News h₀ L h news := fun p hp => N p (hs p hp)
def JoinQ (g : Heap) (L : Addr) (x : Str) (m₀ : Str → Option Value) (news : List (Addr × Obj)) (r : Int) (s : Shared) (f : Flow) (s' : Shared) : Prop :=
  f = .next ∧ ∃ h' tk t', s' = { s with heap := h', toks := tk } ∧ Fr g L h' (fun y => if y = x then some (.int r t') else m₀ y) ∧ News g L h' news
theorem join_int {M : Model} {A : Around} {st : Stmt} {env : Env} {Q : Flow → Shared → Prop} {E : Value → Shared → Prop} {s : Shared} {g : Heap} {L : Addr} {x : Str} {m₀ : Str → Option Value} {news : List (Addr × Obj)} {X : Int} {t : Tok}
    (_F : Fr g L s.heap (fun y => if y = x then some (.int X t) else m₀ y)) (_N : News g L s.heap news) (r : Int) (h1 : wpAny M A (exec st env) (JoinQ g L x m₀ news r s) E s)
    (h2 : ∀ h' tk t', Fr g L h' (fun y => if y = x then some (.int r t') else m₀ y) → News g L h' news → Q .next { s with heap := h', toks := tk }) : wpAny M A (exec st env) Q E s :=
  wpAny_mono h1 (fun f s' ⟨hf, h', tk, t', hs, F', N'⟩ => by subst hf; subst hs; exact h2 h' tk t' F' N') fun _ _ e => e
theorem jq_keep {s : Shared} {g h' : Heap} {L : Addr} {x : Str} {m₀ : Str → Option Value} {news : List (Addr × Obj)} {X r : Int} {t : Tok} {tk : Nat} (F : Fr g L h' (fun y => if y = x then some (.int X t) else m₀ y)) (N : News g L h' news) (e : X = r) :
    JoinQ g L x m₀ news r s .next { s with heap := h', toks := tk } := ⟨rfl, h', tk, t, rfl, e ▸ F, N⟩
theorem jq_set {s : Shared} {g h' : Heap} {L : Addr} {x : Str} {m₀ : Str → Option Value} {news : List (Addr × Obj)} {X Z r : Int} {t t₀ : Tok} {tk : Nat} (F : Fr g L h' (fun y => if y = x then some (.int Z t) else if y = x then some (.int X t₀) else m₀ y)) (N : News g L h' news) (e : Z = r) :
    JoinQ g L x m₀ news r s .next { s with heap := h', toks := tk } := by
  subst e
  refine ⟨rfl, h', tk, t, rfl, ?_, N⟩
  have q : (fun y => if y = x then some (Value.int Z t) else if y = x then some (Value.int X t₀) else m₀ y) = fun y => if y = x then some (Value.int Z t) else m₀ y := by
    funext y
    by_cases h : y = x <;> simp [h]
  rw [q] at F
  exact F
theorem date_split {M : Model} {A : Around} {Q E : Value → Shared → Prop} {s : Shared} {f : Value} {z y mo d : Int} {t4 t5 t6 : Tok} (ey : y = wY z) (em : mo = wM z) (ed : d = wD z)
    (h1 : DateOk (wY z) (wM z) (wD z) → wpAny M A (PySem.call f [.int (wY z) t4, .int (wM z) t5, .int (wD z) t6]) Q E s) (h2 : ¬ DateOk (wY z) (wM z) (wD z) → wpAny M A (PySem.call f [.int (wY z) t4, .int (wM z) t5, .int (wD z) t6]) Q E s) :
    wpAny M A (PySem.call f [.int y t4, .int mo t5, .int d t6]) Q E s := by
  subst ey em ed
  by_cases h : DateOk (wY z) (wM z) (wD z)
  · exact h1 h
  · exact h2 h
theorem time_split {M : Model} {A : Around} {Q E : Value → Shared → Prop} {s : Shared} {f : Value} {z y mo d : Int} {t4 t5 t6 : Tok} (ey : y = wH z) (em : mo = wMi z) (ed : d = wS z)
    (h1 : TimeOk (wH z) (wMi z) (wS z) → wpAny M A (PySem.call f [.int (wH z) t4, .int (wMi z) t5, .int (wS z) t6]) Q E s) (h2 : ¬ TimeOk (wH z) (wMi z) (wS z) → wpAny M A (PySem.call f [.int (wH z) t4, .int (wMi z) t5, .int (wS z) t6]) Q E s) :
    wpAny M A (PySem.call f [.int y t4, .int mo t5, .int d t6]) Q E s := by
  subst ey em ed
  by_cases h : TimeOk (wH z) (wMi z) (wS z)
  · exact h1 h
  · exact h2 h
theorem fdiv_e (z : Int) {n : Int} (h : 0 ≤ n) : z.fdiv n = z / n := Int.fdiv_eq_ediv_of_nonneg z h
theorem bits7 (z : Int) : Builtin.bitAnd z (1 * 2 ^ Int.toNat 7 - 1) = z % 128 := bitAnd_m7 z
theorem bits6 (z : Int) : Builtin.bitAnd z (1 * 2 ^ Int.toNat 6 - 1) = z % 64 := bitAnd_m6 z
theorem bits5 (z : Int) : Builtin.bitAnd z (1 * 2 ^ Int.toNat 5 - 1) = z % 32 := bitAnd_m5 z
theorem bits4 (z : Int) : Builtin.bitAnd z (1 * 2 ^ Int.toNat 4 - 1) = z % 16 := bitAnd_m4 z
theorem sh9 (z : Int) : z.fdiv (2 ^ Int.toNat 9) = z / 512 := fdiv_e z (by decide)
theorem sh5 (z : Int) : z.fdiv (2 ^ Int.toNat 5) = z / 32 := fdiv_e z (by decide)
theorem sh11 (z : Int) : z.fdiv (2 ^ Int.toNat 11) = z / 2048 := fdiv_e z (by decide)
theorem bor_disj {x d : Int} (i : Nat) (hx : 0 ≤ x) (h0 : 0 ≤ d) (h1 : d < 2 ^ i) : Builtin.bitOr (x * 2 ^ i) d = x * 2 ^ i + d := by
  obtain ⟨a, rfl⟩ := Int.eq_ofNat_of_zero_le hx
  obtain ⟨b, rfl⟩ := Int.eq_ofNat_of_zero_le h0
  have hb : b < 2 ^ i := by
    have : ((b : Nat) : Int) < ((2 ^ i : Nat) : Int) := by rw [Int.natCast_pow]; exact h1
    exact Int.ofNat_lt.mp this
  have e : (a : Int) * 2 ^ i = ((2 ^ i * a : Nat) : Int) := by rw [Int.natCast_mul, Int.natCast_pow, Int.mul_comm]; rfl
  rw [bitOr_and, e, bitAnd_pp (Int.natCast_nonneg _) (Int.natCast_nonneg _), Int.toNat_natCast, Int.toNat_natCast]
  have h2 := Nat.two_pow_add_eq_or_of_lt hb a
  have h3 := nat_or_add_and (2 ^ i * a) b
  have h4 : (2 ^ i * a) &&& b = 0 := by omega
  rw [h4]
  omega
theorem raisedS_sub {base G : Heap} {l : List Env} {e : Addr} {cls : Value} {t : Addr} {vs : List Value} {news news' : List (Addr × Obj)} {h : Heap} (R : RaisedS base G l e cls t vs news h) (hs : ∀ p ∈ news', p ∈ news) : RaisedS base G l e cls t vs news' h :=
  let ⟨⟨B, a, b, c, e⟩, d⟩ := R
  ⟨⟨B, a, b, fun q hq => c q (hs q hq), e⟩, d⟩
end Mine
end
section
set_option Elab.async false
open PySem
namespace Mine
theorem fm (y : Int) {n : Int} (h : 0 ≤ n) : y.fmod n = y % n := Int.fmod_eq_emod_of_nonneg y h
theorem int_eq {Q : Value → Shared → Prop} {a n : Int} {t : Tok} {s : Shared} (e : a = n) (h : Q (.int n t) s) : Q (.int a t) s := e ▸ h
end Mine
namespace Mine
open PySem
end Mine
namespace Mine
open PySem
theorem dg {x a r : Int} (h0 : 0 ≤ r) (h1 : r < a) : (x * a + r) / a = x := by
  rw [Int.add_comm, Int.add_mul_ediv_right _ _ (Int.ne_of_gt (Int.lt_of_le_of_lt h0 h1)), Int.ediv_eq_zero_of_lt h0 h1, Int.zero_add]
theorem dgm {x a r : Int} (h0 : 0 ≤ r) (h1 : r < a) : (x * a + r) % a = r := by
  rw [Int.add_comm, Int.add_mul_emod_self_right, Int.emod_eq_of_lt h0 h1]
theorem back_date {y mo d : Int} (okd : DateOk y mo d) (ge : 1980 ≤ y) (lt : y < 2108) : dY ((y - 1980) * 512 + mo * 32 + d) = y ∧ dM ((y - 1980) * 512 + mo * 32 + d) = mo ∧ dD ((y - 1980) * 512 + mo * 32 + d) = d := by
  have okd' := okd
  obtain ⟨w1, w2, w3, w4, w5, w6⟩ := okd'
  have w7 := Int.le_trans w6 (dlen_le y mo)
  have b0 : 0 ≤ mo := Int.le_trans (by decide) w3
  have b1 : mo < 16 := Int.lt_of_le_of_lt w4 (by decide)
  have b2 : 0 ≤ d := Int.le_trans (by decide) w5
  have b3 : d < 32 := Int.lt_of_le_of_lt w7 (by decide)
  have q1 : (y - 1980) * 512 + mo * 32 + d = ((y - 1980) * 16 + mo) * 32 + d := by rw [Int.add_mul, Int.mul_assoc]; rfl
  have e1 : wY ((y - 1980) * 512 + mo * 32 + d) = y := by
    unfold wY; rw [Int.add_assoc, dg (by omega) (by omega), Int.emod_eq_of_lt (by omega) (by omega)]; exact Int.sub_add_cancel _ _
  have e2 : wM ((y - 1980) * 512 + mo * 32 + d) = mo := by unfold wM; rw [q1, dg b2 b3, dgm b0 b1]
  have e3 : wD ((y - 1980) * 512 + mo * 32 + d) = d := by unfold wD; rw [q1, dgm b2 b3]
  have := d_ok (z := (y - 1980) * 512 + mo * 32 + d) (by rw [e1, e2, e3]; exact okd)
  rw [e1, e2, e3] at this
  exact this
theorem half (se : Int) : se / 2 * 2 = se - se % 2 := by omega
theorem even_ok {h mi se : Int} (okt : TimeOk h mi se) : TimeOk h mi (se - se.fmod 2) := by
  rw [fm _ (by decide : (0 : Int) ≤ 2), ← half]
  obtain ⟨v1, v2, v3, v4, v5, v6⟩ := okt
  exact ⟨v1, v2, v3, v4, by omega, by omega⟩
theorem back_time {h mi se : Int} (okt : TimeOk h mi se) : tH (h * 2048 + mi * 32 + se / 2) = h ∧ tM (h * 2048 + mi * 32 + se / 2) = mi ∧ tS (h * 2048 + mi * 32 + se / 2) = se - se.fmod 2 := by
  have ev := even_ok okt
  obtain ⟨v1, v2, v3, v4, v5, v6⟩ := okt
  have b2 : 0 ≤ se / 2 := Int.ediv_nonneg v5 (by decide)
  have b3 : se / 2 < 32 := by omega
  have b1 : mi < 64 := Int.lt_of_le_of_lt v4 (by decide)
  have q1 : h * 2048 + mi * 32 + se / 2 = (h * 64 + mi) * 32 + se / 2 := by rw [Int.add_mul, Int.mul_assoc]; rfl
  have e1 : wH (h * 2048 + mi * 32 + se / 2) = h := by
    unfold wH; rw [Int.add_assoc, dg (by omega) (by omega), Int.emod_eq_of_lt v1 (Int.lt_of_le_of_lt v2 (by decide))]
  have e2 : wMi (h * 2048 + mi * 32 + se / 2) = mi := by unfold wMi; rw [q1, dg b2 b3, dgm v3 b1]
  have e3 : wS (h * 2048 + mi * 32 + se / 2) = se - se.fmod 2 := by unfold wS; rw [q1, dgm b2 b3, fm _ (by decide : (0 : Int) ≤ 2), half]
  have := t_ok (z := h * 2048 + mi * 32 + se / 2) (by rw [e1, e2, e3]; exact ev)
  rw [e1, e2, e3] at this
  exact this
end Mine
namespace Mine
open PySem
theorem dmz (z q : Int) {a b : Int} (ha : a ≠ 0) : (z + a * (b * q)) / a % b = z / a % b := by
  rw [Int.add_mul_ediv_left _ _ ha, Int.add_mul_emod_self_left]
theorem wmod (z : Int) : wY (z.fmod 65536) = wY z ∧ wM (z.fmod 65536) = wM z ∧ wD (z.fmod 65536) = wD z ∧ wH (z.fmod 65536) = wH z ∧ wMi (z.fmod 65536) = wMi z ∧ wS (z.fmod 65536) = wS z := by
  rw [fm _ (by decide : (0 : Int) ≤ 65536)]
  obtain ⟨q, e⟩ : ∃ q, z % 65536 = z + 65536 * q := ⟨-(z / 65536), by omega⟩
  have e1 : z + 65536 * q = z + 512 * (128 * q) := by rw [← Int.mul_assoc]; rfl
  have e2 : z + 65536 * q = z + 32 * (16 * (128 * q)) := by rw [← Int.mul_assoc, ← Int.mul_assoc]; rfl
  have e3 : z + 65536 * q = z + 32 * (64 * (32 * q)) := by rw [← Int.mul_assoc, ← Int.mul_assoc]; rfl
  have e4 : z + 65536 * q = z + 2048 * (32 * q) := by rw [← Int.mul_assoc]; rfl
  have f : (z + 65536 * q) % 32 = z % 32 := by rw [e2, Int.add_mul_emod_self_left]
  unfold wY wM wD wH wMi wS
  rw [e]
  exact ⟨by rw [e1, dmz _ _ (by decide)], by rw [e2, dmz _ _ (by decide)], f, by rw [e4, dmz _ _ (by decide)], by rw [e3, dmz _ _ (by decide)], by rw [f]⟩
theorem dY_mod (z : Int) : dY (z.fmod 65536) = dY z := by obtain ⟨a, b, c, _, _, _⟩ := wmod z; unfold dY; rw [a, b, c]
theorem dM_mod (z : Int) : dM (z.fmod 65536) = dM z := by obtain ⟨a, b, c, _, _, _⟩ := wmod z; unfold dM; rw [a, b, c]
theorem dD_mod (z : Int) : dD (z.fmod 65536) = dD z := by obtain ⟨a, b, c, _, _, _⟩ := wmod z; unfold dD; rw [a, b, c]
theorem tH_mod (z : Int) : tH (z.fmod 65536) = tH z := by obtain ⟨_, _, _, a, b, c⟩ := wmod z; unfold tH; rw [a, b, c]
theorem tM_mod (z : Int) : tM (z.fmod 65536) = tM z := by obtain ⟨_, _, _, a, b, c⟩ := wmod z; unfold tM; rw [a, b, c]
theorem tS_mod (z : Int) : tS (z.fmod 65536) = tS z := by obtain ⟨_, _, _, a, b, c⟩ := wmod z; unfold tS; rw [a, b, c]
end Mine
end
section
open PySem
set_option Elab.async false
namespace Mine
def dT (y mo : Int) : Int := y + (mo - 1).fdiv 12 - (((mo - 1).fmod 12 + 10).fmod 12).fdiv 10
def dayN (y mo : Int) : Int := 365 * dT y mo + (dT y mo).fdiv 4 - (dT y mo).fdiv 100 + (dT y mo).fdiv 400 + (((mo - 1).fmod 12 + 10).fmod 12 * 306 + 5).fdiv 10
theorem dayN_of {y mo a b c : Int} (ha : (mo - 1).fdiv 12 - (((mo - 1).fmod 12 + 10).fmod 12).fdiv 10 = a) (hb : (((mo - 1).fmod 12 + 10).fmod 12 * 306 + 5).fdiv 10 = b) (hc : y + a = c) :
    dayN y mo = 365 * c + c / 4 - c / 100 + c / 400 + b := by
  have e : dT y mo = c := by unfold dT; rw [← hc, ← ha]; omega
  unfold dayN
  rw [e, hb, fdiv_e c (by decide : (0 : Int) ≤ 4), fdiv_e c (by decide : (0 : Int) ≤ 100), fdiv_e c (by decide : (0 : Int) ≤ 400)]
theorem stp4 (y : Int) : y / 4 = (y + -1) / 4 + (if y % 4 = 0 then 1 else 0) := by split <;> omega
theorem stp100 (y : Int) : y / 100 = (y + -1) / 100 + (if y % 100 = 0 then 1 else 0) := by split <;> omega
theorem stp400 (y : Int) : y / 400 = (y + -1) / 400 + (if y % 400 = 0 then 1 else 0) := by split <;> omega
theorem rem4 {y : Int} (h : y % 100 = 0) : y % 4 = 0 := by omega
theorem rem100 {y : Int} (h : y % 400 = 0) : y % 100 = 0 := by omega
theorem leap28 (y : Int) : dlen y 2 = 365 * y + y / 4 - y / 100 + y / 400 + 0 - (365 * (y + -1) + (y + -1) / 4 - (y + -1) / 100 + (y + -1) / 400 + 337) := by
  rw [stp4 y, stp100 y, stp400 y]
  unfold dlen leap
  simp only [decide_eq_true_eq, true_and]
  rw [fm y (by decide : (0 : Int) ≤ 4), fm y (by decide : (0 : Int) ≤ 100), fm y (by decide : (0 : Int) ≤ 400)]
  generalize (y + -1) / 4 = p
  generalize (y + -1) / 100 = q
  generalize (y + -1) / 400 = r
  by_cases h4 : y % 4 = 0
  · by_cases h1 : y % 100 = 0
    · by_cases hh : y % 400 = 0
      · rw [if_pos ⟨h4, .inr hh⟩, if_pos h4, if_pos h1, if_pos hh]; clear h4 h1 hh; omega
      · rw [if_neg (fun x => x.2.elim (fun e => e h1) hh), if_pos h4, if_pos h1, if_neg hh]; clear h4 h1 hh; show (28 : Int) = _; omega
    · have hh : ¬ y % 400 = 0 := fun e => h1 (rem100 e)
      rw [if_pos ⟨h4, .inl h1⟩, if_pos h4, if_neg h1, if_neg hh]; clear h4 h1 hh; omega
  · have h1 : ¬ y % 100 = 0 := fun e => h4 (rem4 e)
    have hh : ¬ y % 400 = 0 := fun e => h1 (rem100 e)
    rw [if_neg (fun x => h4 x.1), if_neg h4, if_neg h1, if_neg hh]; clear h4 h1 hh; show (28 : Int) = _; omega
theorem months {m : Int} (h1 : 1 ≤ m) (h2 : m ≤ 12) : m = 1 ∨ m = 2 ∨ m = 3 ∨ m = 4 ∨ m = 5 ∨ m = 6 ∨ m = 7 ∨ m = 8 ∨ m = 9 ∨ m = 10 ∨ m = 11 ∨ m = 12 := by
  obtain ⟨n, rfl⟩ := Int.eq_ofNat_of_zero_le (Int.le_trans (by decide) h1)
  have k : ∀ n : Nat, n < 13 → (1 : Int) ≤ n → (n : Int) = 1 ∨ (n : Int) = 2 ∨ (n : Int) = 3 ∨ (n : Int) = 4 ∨ (n : Int) = 5 ∨ (n : Int) = 6 ∨ (n : Int) = 7 ∨ (n : Int) = 8 ∨ (n : Int) = 9 ∨ (n : Int) = 10 ∨ (n : Int) = 11 ∨ (n : Int) = 12 := by decide +kernel
  exact k n (by omega) h1
theorem days_len {y m : Int} (h1 : 1 ≤ m) (h2 : m ≤ 12) : dayN y (m + 1) - dayN y m = dlen y m := by
  have gen : ∀ {m a b b' : Int}, (m - 1).fdiv 12 - (((m - 1).fmod 12 + 10).fmod 12).fdiv 10 = a → (((m - 1).fmod 12 + 10).fmod 12 * 306 + 5).fdiv 10 = b → ((m + 1) - 1).fdiv 12 - ((((m + 1) - 1).fmod 12 + 10).fmod 12).fdiv 10 = a → ((((m + 1) - 1).fmod 12 + 10).fmod 12 * 306 + 5).fdiv 10 = b' → m ≠ 2 → b' - b = tab m → dayN y (m + 1) - dayN y m = dlen y m := by
    intro m a b b' p q p' q' hn e
    rw [dayN_of p q rfl, dayN_of p' q' rfl]
    unfold dlen
    rw [if_neg (fun x => hn x.1), ← e]
    exact Int.add_sub_add_left _ _ _
  rcases months h1 h2 with rfl | rfl | rfl | rfl | rfl | rfl | rfl | rfl | rfl | rfl | rfl | rfl
  · exact gen (a := -1) (b := 306) (b' := 337) (by decide) (by decide) (by decide) (by decide) (by decide) (by decide)
  · rw [leap28, dayN_of (mo := 2) (a := -1) (b := 337) (by decide) (by decide) rfl, dayN_of (mo := 2 + 1) (a := 0) (b := 0) (by decide) (by decide) (Int.add_zero y)]
  · exact gen (a := 0) (b := 0) (b' := 31) (by decide) (by decide) (by decide) (by decide) (by decide) (by decide)
  · exact gen (a := 0) (b := 31) (b' := 61) (by decide) (by decide) (by decide) (by decide) (by decide) (by decide)
  · exact gen (a := 0) (b := 61) (b' := 92) (by decide) (by decide) (by decide) (by decide) (by decide) (by decide)
  · exact gen (a := 0) (b := 92) (b' := 122) (by decide) (by decide) (by decide) (by decide) (by decide) (by decide)
  · exact gen (a := 0) (b := 122) (b' := 153) (by decide) (by decide) (by decide) (by decide) (by decide) (by decide)
  · exact gen (a := 0) (b := 153) (b' := 184) (by decide) (by decide) (by decide) (by decide) (by decide) (by decide)
  · exact gen (a := 0) (b := 184) (b' := 214) (by decide) (by decide) (by decide) (by decide) (by decide) (by decide)
  · exact gen (a := 0) (b := 214) (b' := 245) (by decide) (by decide) (by decide) (by decide) (by decide) (by decide)
  · exact gen (a := 0) (b := 245) (b' := 275) (by decide) (by decide) (by decide) (by decide) (by decide) (by decide)
  · exact gen (a := 0) (b := 275) (b' := 306) (by decide) (by decide) (by decide) (by decide) (by decide) (by decide)
theorem is_day {y mo d : Int} (a1 : ¬ y < 1) (a2 : ¬ 9999 < y) (a3 : ¬ mo < 1) (a4 : ¬ 12 < mo) (a5 : ¬ d < 1) : decide (d ≤ dayN y (mo + 1) - dayN y mo) = decide (DateOk y mo d) := by
  rw [days_len (Int.not_lt.mp a3) (Int.not_lt.mp a4)]
  exact decide_eq_decide.mpr ⟨fun h => ⟨Int.not_lt.mp a1, Int.not_lt.mp a2, Int.not_lt.mp a3, Int.not_lt.mp a4, Int.not_lt.mp a5, h⟩, fun h => h.2.2.2.2.2⟩
theorem bool_eq {Q : Value → Shared → Prop} {a b : Bool} {s : Shared} (e : a = b) (h : Q (.bool b) s) : Q (.bool a) s := e ▸ h
theorem no_day {y mo d : Int} (h : y < 1 ∨ 9999 < y ∨ mo < 1 ∨ 12 < mo ∨ d < 1) : false = decide (DateOk y mo d) := (decide_eq_false (by unfold DateOk; omega)).symm
theorem w_eq {z : Int} (h0 : 0 ≤ z) (h1 : z < 65536) : 1980 + z.fdiv 512 = wY z ∧ (z.fdiv 32).fmod 16 = wM z ∧ z.fmod 32 = wD z := by
  rw [fm _ (by decide : (0 : Int) ≤ 16), fm _ (by decide : (0 : Int) ≤ 32), fdiv_e _ (by decide : (0 : Int) ≤ 512), fdiv_e _ (by decide : (0 : Int) ≤ 32)]
  exact ⟨by unfold wY; omega, rfl, rfl⟩
theorem v_eq {z : Int} (h0 : 0 ≤ z) (h1 : z < 65536) : z.fdiv 2048 = wH z ∧ (z.fdiv 32).fmod 64 = wMi z ∧ z.fmod 32 * 2 = wS z := by
  rw [fm _ (by decide : (0 : Int) ≤ 64), fm _ (by decide : (0 : Int) ≤ 32), fdiv_e _ (by decide : (0 : Int) ≤ 2048), fdiv_e _ (by decide : (0 : Int) ≤ 32)]
  exact ⟨by unfold wH; omega, rfl, rfl⟩
theorem ld_ok {z : Int} (h0 : 0 ≤ z) (h1 : z < 65536) (h : DateOk (1980 + z.fdiv 512) ((z.fdiv 32).fmod 16) (z.fmod 32)) : 1980 + z.fdiv 512 = dY z ∧ (z.fdiv 32).fmod 16 = dM z ∧ z.fmod 32 = dD z := by
  obtain ⟨a, b, c⟩ := w_eq h0 h1
  rw [a, b, c] at h ⊢
  obtain ⟨x, y, q⟩ := d_ok h
  exact ⟨x.symm, y.symm, q.symm⟩
theorem ld_bad {z : Int} (h0 : 0 ≤ z) (h1 : z < 65536) (h : ¬ DateOk (1980 + z.fdiv 512) ((z.fdiv 32).fmod 16) (z.fmod 32)) : 1980 = dY z ∧ 1 = dM z ∧ 1 = dD z := by
  obtain ⟨a, b, c⟩ := w_eq h0 h1
  rw [a, b, c] at h
  obtain ⟨x, y, q⟩ := d_bad h
  exact ⟨x.symm, y.symm, q.symm⟩
theorem lt_ok {z : Int} (h0 : 0 ≤ z) (h1 : z < 65536) (h : TimeOk (z.fdiv 2048) ((z.fdiv 32).fmod 64) (z.fmod 32 * 2)) : z.fdiv 2048 = tH z ∧ (z.fdiv 32).fmod 64 = tM z ∧ z.fmod 32 * 2 = tS z := by
  obtain ⟨a, b, c⟩ := v_eq h0 h1
  rw [a, b, c] at h ⊢
  obtain ⟨x, y, q⟩ := t_ok h
  exact ⟨x.symm, y.symm, q.symm⟩
theorem lt_bad {z : Int} (h0 : 0 ≤ z) (h1 : z < 65536) (h : ¬ TimeOk (z.fdiv 2048) ((z.fdiv 32).fmod 64) (z.fmod 32 * 2)) : 0 = tH z ∧ 0 = tM z ∧ 0 = tS z := by
  obtain ⟨a, b, c⟩ := v_eq h0 h1
  rw [a, b, c] at h
  obtain ⟨x, y, q⟩ := t_bad h
  exact ⟨x.symm, y.symm, q.symm⟩
theorem dY_ge (z : Int) : 1980 ≤ dY z := by unfold dY wY; split <;> omega
theorem dY_le (z : Int) : dY z ≤ 2107 := by unfold dY wY; split <;> omega
theorem fm_lo (x : Int) : 0 ≤ x.fmod 65536 := by rw [fm x (by decide)]; omega
theorem fm_hi (x : Int) : x.fmod 65536 < 65536 := by rw [fm x (by decide)]; omega
end Mine
end
section
open PySem PySem.W PyProof.Rows PySem.Calls
set_option Elab.async false
namespace Mine
theorem room1 {R dp n a : Nat} (h : dp + n < R) (k : a ≤ n) : dp + a < R := by omega
theorem room2 {R dp n a b : Nat} (h : dp + n < R) (k : a + b ≤ n) : dp + a + b < R := by omega
theorem room3 {R dp n a b c : Nat} (h : dp + n < R) (k : a + b + c ≤ n) : dp + a + b + c < R := by omega
theorem room4 {R dp n a b c d : Nat} (h : dp + n < R) (k : a + b + c + d ≤ n) : dp + a + b + c + d < R := by omega
theorem mem_frames {env : Env} {outer : List Env} {L b : Addr} (hf : env.frame = some L) (hm : b ∈ (env :: outer).filterMap (·.frame)) : b = L ∨ b ∈ outer.filterMap (·.frame) := by
  rw [List.filterMap_cons, hf] at hm
  rcases List.mem_cons.mp hm with e | e
  · exact .inl e
  · exact .inr e

theorem groundS {A₀ A : Around} {s : Shared} {base h₀ g₀ : Heap} {outer : List Env} {L : Addr} {m : Str → Option Value} {env : Env} {news : List (Addr × Obj)} {K : Frag} {p : Program} {loose : List Str} {mean : ExcName → Option Value} {mg mb : Str → Option Value}
    {R : Result → Shared → Prop}
    (B : Below A₀ base outer h₀) (F : Fr h₀ L s.heap m) (N : News h₀ L s.heap news) (XB : K.In base) (TB : Top p loose mean mg mb base) (D : KtsDicts (outer.filterMap (·.frame)) h₀)
    (T0 : KtsTurn (outer.filterMap (·.frame)) g₀ h₀) (hA : A.frames = some (env :: outer)) (hf : env.frame = some L) (hke : env.scope.kind = .function) :
    Fr h₀ L (hideAll s.heap (news.map (·.1))) m ∧ Below A base (env :: outer) (hideAll s.heap (news.map (·.1))) ∧ h₀.StaysIn (hideAll s.heap (news.map (·.1))) ∧ KtsDicts ((env :: outer).filterMap (·.frame)) (hideAll s.heap (news.map (·.1))) ∧
      ∀ v s', LeaveS ((env :: outer).filterMap (·.frame)) A₀ base outer K p loose mean mg mb g₀ h₀ L m (hideAll s.heap (news.map (·.1))) R v s' → R (.ok (.ret v)) s' := by
  obtain ⟨FG, BG, SG, back⟩ := groundX (R := R) B F N hA hf hke
  have nL₀ : h₀.get? L = none := kts_self F
  obtain ⟨oL, es, ep, hLg, hLd, hLk, hLf⟩ := id FG.ns
  have dG : KtsDicts ((env :: outer).filterMap (·.frame)) (hideAll s.heap (news.map (·.1))) := fun b hb => by
    rcases mem_frames hf hb with rfl | hb
    · exact ⟨oL, es, ep, hLg, hLd⟩
    · obtain ⟨o, es', n', ho', hd'⟩ := D b hb
      exact ⟨o, es', n', SG b o ho', hd'⟩
  refine ⟨FG, BG, SG, dG, fun v s' hl => ?_⟩
  rcases hl with ⟨L', m', news', F', N', k⟩ | ⟨g', L', m', news', T', F', N', k⟩
  · exact back _ _ ⟨L', m', news', F', N', k⟩
  have old : ∀ b o, h₀.get? b = some o → b ∉ outer.filterMap (·.frame) → s'.heap.get? b = some o := fun b o e nm =>
    F'.keep b o (T'.other b o (SG b o e) fun q => by
      rcases mem_frames hf q with z | z
      · rw [z, nL₀] at e; cases e
      · exact nm z)
  have turned : ∀ b o, h₀.get? b = some o → b ∈ outer.filterMap (·.frame) → ∃ sl, s'.heap.get? b = some { o with slots := sl } := fun b o e _ => by
    obtain ⟨sl, hs⟩ := T'.up (SG b o e)
    exact ⟨sl, F'.keep _ _ hs⟩
  obtain ⟨T₁, S₁⟩ := kts_turn_at (h := s'.heap) (fs := outer.filterMap (·.frame)) (g := h₀) (fun b hb => by
    obtain ⟨_, o, ho', _⟩ := B.frames.mem hb
    exact ⟨o, ho'⟩) old turned
  have stays₁ : base.StaysIn (ktsHeap s'.heap (outer.filterMap (·.frame)) h₀) := fun b o e => T₁.other b o (B.stays b o e) fun hm => by
    rw [(B.frames.mem hm).1] at e; cases e
  have B₃ : Below A₀ base outer (ktsHeap s'.heap (outer.filterMap (·.frame)) h₀) := ⟨B.stack, stays₁, B.frames.of_keeps fun b o e _ => by
    obtain ⟨sl', hs'⟩ := T₁.up e
    exact ⟨_, hs', rfl⟩⟩
  obtain ⟨sl, hs⟩ := T'.up hLg
  have F₃ : Fr (ktsHeap s'.heap (outer.filterMap (·.frame)) h₀) L s'.heap m := ⟨⟨_, es, ep, F'.keep _ _ hs, hLd, hLk, hLf⟩, S₁, by rw [T₁.size]; exact F.above⟩
  have N₃ : News (ktsHeap s'.heap (outer.filterMap (·.frame)) h₀) L s'.heap news' := fun q hq => by
    refine ⟨(N' q hq).1, fun z => ?_, T₁.none_ _ ?_⟩
    · have := (N' q hq).2.2
      rw [z, hs] at this; cases this
    · cases z : h₀.get? q.1 with
      | none => rfl
      | some o =>
        obtain ⟨sl', hs'⟩ := T'.up (SG _ _ z)
        have := (N' q hq).2.2
        rw [hs'] at this; cases this
  exact k _ (T0.trans T₁) F₃ N₃ B₃ (XB.keeps stays₁) (TB.keeps stays₁) (D.turn T₁)

theorem code_defT {prog : Program} {w : World} {A₀ A : Around} {s : Shared} {base h₀ g₀ : Heap} {outer : List Env} {L : Addr} {m : Str → Option Value} {env : Env} {news : List (Addr × Obj)} {K : Frag} {p : Program} {loose : List Str} {mean : ExcName → Option Value} {mg mb : Str → Option Value}
    {R : Result → Shared → Prop} {name qual : Str} {params : Arguments} {body : List Stmt} {scope : Scope} {dV kV doc pm cdv ct oc : Value} {an od : Option Addr} {osl : Array (Option Value)} {f : Addr} {args : Args} {binds : List (Str × Value)}
    (B : Below A₀ base outer h₀) (F : Fr h₀ L s.heap m) (X₀ : K.In h₀) (N : News h₀ L s.heap news) (T : Top p loose mean mg mb h₀) (XB : K.In base) (TB : Top p loose mean mg mb base) (D : KtsDicts (outer.filterMap (·.frame)) h₀)
    (T0 : KtsTurn (outer.filterMap (·.frame)) g₀ h₀) (hA : A.frames = some (env :: outer)) (hf : env.frame = some L) (hke : env.scope.kind = .function)
    (ho : K.lookup f = some ⟨oc, od, .func (fnOf name qual params body scope dV kV doc pm an cdv ct), osl⟩) (hcd : codeIn K cdv qual = true) (hroom : A.depth < recursionLimit)
    (hbind : BindsTo s (fnOf name qual params body scope dV kV doc pm an cdv ct) args binds) (hloc : ∀ y ∈ binds, scope.names.lookup y.1 = some .local)
    (h : ∀ g L' h₁, Fr h₀ L g m → Fr g L' h₁ (fun y => binds.reverse.lookup y) → News g L' h₁ news → Below A base (env :: outer) g → K.In g → Top p loose mean mg mb g → KtsDicts ((env :: outer).filterMap (·.frame)) g →
      wpAny (model prog w) (A.deeper (envOf qual scope L' f cdv)) (execs body (envOf qual scope L' f cdv))
        (fun fl s' => LeaveS ((env :: outer).filterMap (·.frame)) A₀ base outer K p loose mean mg mb g₀ h₀ L m g R (match fl with | .ret v => v | _ => .none) s')
        (fun e s' => wpAny (model prog w) (A.deeper (envOf qual scope L' f cdv)) (leaving (envOf qual scope L' f cdv) e) (fun _ s'' => R (.error e) s'') (fun e' s'' => R (.error e') s'') s')
        { s with heap := h₁, toks := s.toks + binds.length })
    (hco : scope.isCoroutine = false) (hgen : scope.isGenerator = false) (hk : scope.kind = .function)
    (hcell : ∀ x ∈ scope.names, x.2 ≠ .cell) : codeAny (model prog w) A (.call (.ref f) args) R s := by
  have X := X₀.keeps F.keep
  obtain ⟨FG, BG, SG, dG, back⟩ := groundS (R := R) B F N XB TB D T0 hA hf hke
  refine codeAny_call_def (fd := fnOf name qual params body scope dV kV doc pm an cdv ct) (body := body) (binds := binds) hroom (X _ _ ho) rfl (T.nolimit.keeps F.keep) (codeRec_of X hcd) rfl hbind hcell hloc (fun h₁ hns hk₁ => ?_) hco hgen hk
  have NG : News (hideAll s.heap (news.map (·.1))) s.heap.objs.size h₁ news := fun q hq =>
    ⟨hk₁ _ _ (N q hq).1, Nat.ne_of_lt (Heap.lt_size (N q hq).1), hideAll_none _ (List.mem_map_of_mem hq)⟩
  exact wpAny_mono (h _ s.heap.objs.size h₁ FG ⟨hns, fun b o e => hk₁ b o (of_hideAll _ e), Nat.le_of_eq (hideAll_size _ _)⟩ NG BG (X₀.keeps SG) (T.keeps SG) dG) (fun fl s' hl => back _ _ hl) fun _ _ y => y

/-- a frame with nothing below: the turned ground is the old one -/
theorem turn_nil {h₀ hZ h : Heap} {L : Addr} {m : Str → Option Value} (T : KtsTurn [] h₀ hZ) (F : Fr hZ L h m) : Fr h₀ L h m :=
  ⟨F.ns, fun b o e => F.keep b o (T.other b o e (fun q => nomatch q)), by rw [← T.size]; exact F.above⟩
theorem turn_nilN {h₀ hZ h : Heap} {L : Addr} {news : List (Addr × Obj)} (T : KtsTurn [] h₀ hZ) (N : News hZ L h news) : News h₀ L h news := fun q hq => ⟨(N q hq).1, (N q hq).2.1, by
  cases z : h₀.get? q.1 with
  | none => rfl
  | some o => have := (N q hq).2.2; rw [T.other _ _ z (fun q => nomatch q)] at this; cases this⟩
end Mine
end
section
open PySem PySem.W PyProof.Rows
namespace Mine
theorem ser_date {y mo d : Int} (ok : DateOk y mo d) (ge : 1980 ≤ y) : Builtin.bitOr (Builtin.bitOr ((y - 1980) * 2 ^ Int.toNat 9) (mo * 2 ^ Int.toNat 5)) d = (y - 1980) * 512 + mo * 32 + d := by
  obtain ⟨w1, w2, w3, w4, w5, w6⟩ := ok
  have w7 := dlen_le y mo
  have e1 := bor_disj (x := y - 1980) (d := mo * 2 ^ Int.toNat 5) 9 (by omega) (by show 0 ≤ mo * 32; omega) (by show mo * 32 < 512; omega)
  have e2 := bor_disj (x := (y - 1980) * 16 + mo) (d := d) 5 (by omega) (by omega) (by show d < 32; omega)
  have e3 : (y - 1980) * 2 ^ 9 + mo * 2 ^ Int.toNat 5 = ((y - 1980) * 16 + mo) * 2 ^ 5 := by show (y - 1980) * 512 + mo * 32 = ((y - 1980) * 16 + mo) * 32; omega
  have e4 : ((y - 1980) * 16 + mo) * 2 ^ 5 + d = (y - 1980) * 512 + mo * 32 + d := by show ((y - 1980) * 16 + mo) * 32 + d = _; omega
  have e0 : (2 : Int) ^ Int.toNat 9 = 2 ^ 9 := rfl
  rw [e0, e1, e3, e2, e4]
theorem ser_time {h mi se : Int} (ok : TimeOk h mi se) : Builtin.bitOr (Builtin.bitOr (h * 2 ^ Int.toNat 11) (mi * 2 ^ Int.toNat 5)) ((se - se.fmod 2).fdiv 2) = h * 2048 + mi * 32 + se / 2 := by
  obtain ⟨v1, v2, v3, v4, v5, v6⟩ := ok
  have es : (se - se.fmod 2).fdiv 2 = se / 2 := by
    rw [Int.fmod_eq_emod_of_nonneg se (by decide), fdiv_e _ (by decide)]; omega
  have e1 := bor_disj (x := h) (d := mi * 2 ^ Int.toNat 5) 11 (by omega) (by show 0 ≤ mi * 32; omega) (by show mi * 32 < 2048; omega)
  have e2 := bor_disj (x := h * 64 + mi) (d := se / 2) 5 (by omega) (by omega) (by show se / 2 < 32; omega)
  have e3 : h * 2 ^ 11 + mi * 2 ^ Int.toNat 5 = (h * 64 + mi) * 2 ^ 5 := by show h * 2048 + mi * 32 = (h * 64 + mi) * 32; omega
  have e4 : (h * 64 + mi) * 2 ^ 5 + se / 2 = h * 2048 + mi * 32 + se / 2 := by show (h * 64 + mi) * 32 + se / 2 = _; omega
  have e0 : (2 : Int) ^ Int.toNat 11 = 2 ^ 11 := rfl
  rw [es, e0, e1, e3, e2, e4]
end Mine
end
section
open PySem PySem.W PyProof.Rows PySem.Calls PySem.Spec
set_option Elab.async false
set_option maxRecDepth 100000
namespace Mine
section
variable {prog : Program} {w : World} {A : Around} {E : Value → Shared → Prop} {s : Shared} {h₀ : Heap} {L : Addr} {m : Str → Option Value} {env : Env}
/-- a comprehension over an ASCII text's signs -/
theorem listcomp_ascii {elt iter : Expr} {x : Str} {px : Pos} {scope : Scope} {cl : List (Str × Addr)} {pos : Pos} {Q : Value → Shared → Prop} (_F₀ : Fr h₀ L s.heap m)
    (hclos : closureFor scope env = pure cl) (hcell : ∀ y ∈ scope.names, y.2 ≠ .cell) (hkind : scope.kind = .function)
    (hnames : ∀ y ∈ scope.names, y.2 = .local → scope.names.lookup y.1 = some .local) (hx : scope.names.lookup x = some .local)
    (h : wpAny (model prog w) A (eval iter env) (fun xv s₁ => ∃ y t news, xv = .str y t ∧ y.cps.all (· < 128) = true ∧ y.cps.size ≤ sizeLine ∧ A.handled = none ∧ Fr h₀ L s₁.heap m ∧ News h₀ L s₁.heap news ∧
      ∀ g, LCg.CompRest prog w A h₀ L m env elt x scope cl { s₁ with heap := g } (fun _ => True) (SignAt y) (LCg.FinE h₀ L m { s₁ with heap := g } Q) y.cps.size 0 [] news) E s)
    (hs : ∀ x, foldedSetIterable iter env x = pure x := by intro _; rfl) :
    wpAny (model prog w) A (eval (.ListComp elt [⟨.Name x px, iter, [], 0⟩] scope pos) env) Q E s := by
  rw [eval_ListComp]
  refine wpAny_comprehension_free (use := none) rfl hs hclos hkind hnames (wpAny_mono h (fun xv s₁ h₁ => ?_) fun _ _ e => e)
  obtain ⟨y, t, news, rfl, ha, hsz, hh, F, N, R⟩ := h₁
  refine wpAny_pyIter_ascii ha ?_
  have up : ∀ (ob : Obj) b o, s₁.heap.get? b = some o → (s₁.heap.push ob).get? b = some o := fun ob b o e => Heap.get?_push_of_some _ e
  refine LCg.block_U (S := fun _ => True) (Walks.strAscii hh s₁.heap.objs.size y t) hsz (fun i h st => by obtain ⟨o, e, _⟩ := st; exact ⟨o, e⟩)
    (fun i h h' o nw st e e' _ _ _ => by obtain ⟨o', q, r⟩ := st; rw [e] at q; cases q; exact ⟨o, e', r⟩) hcell hkind hx ⟨_, Heap.get?_push_size _ rfl, rfl, rfl⟩ (fun b hb => ?_)
    (F.keeps (up _)) (N.grown (up _)) (Nat.ne_of_lt F.ns.lt) (next_is_new F) (fun p hp => Nat.ne_of_lt (Heap.lt_size (N p hp).1)) trivial (R _) ?_
  · rw [List.mem_singleton.mp hb]
    show s₁.heap.objs.size < (s₁.heap.push _).objs.size
    rw [Heap.size_push]; exact Nat.lt_succ_self _
  · intro D C h tk m' ys news' F' N' o1 hn hC₀ hD₀ hCL hDL hCD offC fin
    refine ⟨m', hn, fun h'' hs'' => fin D h'' tk (F'.change hs'' hCL hC₀) (fun p hp => ?_) o1⟩
    refine ⟨hs''.extBut _ _ ?_ (N' p hp).1, (N' p hp).2⟩
    rcases List.mem_cons.mp hp with rfl | hp
    · exact Ne.symm hCD
    · exact offC p hp
/-- its turns, where each gives the sign's number -/
theorem signs_rest {elt : Expr} {x : Str} {scope : Scope} {cl : List (Str × Addr)} {S : List (Addr × Obj) → Prop} {Fin : List Value → List (Addr × Obj) → Prop} {news : List (Addr × Obj)} {y : Str}
    (turn : ∀ c t I oI C oC D m₂ ys h tk (E' : Value → Shared → Prop), LCg.NsObj oC m₂ → m₂ x = some (.str ⟨#[c]⟩ t) → Fr h₀ L h m → News h₀ L h ((I, oI) :: (C, oC) :: (D, LCg.lst ys) :: news) → LCg.Off3 I C D news → ((@Ne Nat I C) ∧ (@Ne Nat I D) ∧ (@Ne Nat C D)) →
      wpAny (model prog w) A (eval elt (compEnvC scope cl C env)) (LCg.CompEnd h₀ L m { s with heap := h, toks := tk } I oI C oC D (LCg.lst ys) S (fun v news' => news' = news ∧ ∃ t, v = .int (c : Nat) t)) E' { s with heap := h, toks := tk })
    (fin : ∀ ys, IntsAre ys (y.cps.toList.map Int.ofNat) → Fin ys news) : LCg.CompRest prog w A h₀ L m env elt x scope cl s S (SignAt y) Fin y.cps.size 0 [] news := by
  have key : ∀ (j i : Nat) (ys : List Value), i + j = y.cps.size → IntsAre ys ((y.cps.toList.take i).map Int.ofNat) → LCg.CompRest prog w A h₀ L m env elt x scope cl s S (SignAt y) Fin j i ys news := by
    intro j
    induction j with
    | zero =>
      intro i ys hi hy
      have e : i = y.cps.toList.length := by simpa using hi
      rw [e, List.take_length] at hy
      exact LCg.CompRest.zero (fin ys hy)
    | succ j ih =>
      intro i ys hi hy
      refine LCg.CompRest.succ ?_
      intro v I oI C oC D m₂ h tk E' hv hC hx' F N off ne
      obtain ⟨c, u, hc, rfl⟩ := hv
      refine wpAny_mono (turn c u I oI C oC D m₂ ys h tk E' hC hx' F N off ne) (fun v s₂ hq => ?_) fun _ _ e => e
      obtain ⟨h', tk', nw, e, F', N', off', hS, hn, t', hv'⟩ := hq
      refine ⟨h', tk', nw, e, F', N', off', hS, ?_⟩
      subst hn hv'
      refine ih (i + 1) _ (by omega) ?_
      have hc' : y.cps.toList[i]? = some c := by rw [← hc]; simp
      rw [List.take_add_one, hc', List.map_append]
      exact IntsAre.append hy (IntsAre.cons _ _ IntsAre.nil)
  exact key _ 0 [] (by omega) IntsAre.nil
end
end Mine
namespace Mine
open PySem
theorem ascii_bytes {x : Str} (h : x.cps.all (· < 128) = true) : ∀ n ∈ x.cps.toList.map Int.ofNat, 0 ≤ n ∧ n < 256 := by
  intro n hn
  obtain ⟨c, hc, rfl⟩ := List.mem_map.mp hn
  rw [← Array.all_toList] at h
  have q := List.all_eq_true.mp h c hc
  have q' : c < 128 := by simpa using q
  exact ⟨Int.natCast_nonneg c, by show (c : Int) < 256; omega⟩
end Mine
end
section
open PySem PySem.W PyProof.Rows PySem.Calls
set_option Elab.async false
namespace Mine
/-- the codes that the look of bytearray's maker asks for -/
def heldIds : List String := Builtin.Bytes.decodersThatHold ++ ["bytearray.__contains__", "bytearray.__mod__", "bytearray.__rmod__", "_struct.pack_into.held", "bytearray.find.held"]
def NoDec (c : Code) : Prop := match c with
  | .builtin id _ => heldIds.contains id = false
  | _ => True
def Clean (Γ : Ctx) : Prop := NoDec Γ.code ∧ ∀ c ∈ Γ.below, NoDec c.1
def CleanB (Γ : Ctx) : Prop := ∀ c ∈ Γ.below, NoDec c.1
theorem Clean.b {Γ : Ctx} (h : Clean Γ) : CleanB Γ := h.2
theorem Clean.enter {Γ : Ctx} (h : Clean Γ) (c : Code) (hd : Option Value) (p : Pos) : CleanB (Γ.enter c hd p) := by
  intro x hx
  have hx' : x ∈ (Γ.code, p) :: Γ.below := hx
  rcases List.mem_cons.mp hx' with rfl | hx'
  · exact h.1
  · exact h.2 x hx'
def wpC {α : Type} (M : Model) (A : Around) (t : Sem α) (Q : α → Shared → Prop) (E : Value → Shared → Prop) (s : Shared) : Prop :=
  ∀ Γ p, Γ.In A → Clean Γ → Sem.wp M Γ t (fun a _ s' => Q a s') (fun e _ s' => E e s') p s
def codeC (M : Model) (A : Around) (c : Code) (R : Result → Shared → Prop) (s : Shared) : Prop :=
  ∀ Γ p, Γ.code = c → Γ.Below A → CleanB Γ → wpCode M Γ R p s
section
variable {α β : Type} {M : Model} {A : Around} {E : Value → Shared → Prop} {s : Shared}
theorem wpC_of {t : Sem α} {Q : α → Shared → Prop} (h : wpAny M A t Q E s) : wpC M A t Q E s := fun Γ p hΓ _ => h Γ p hΓ
theorem codeC_of {c : Code} {R : Result → Shared → Prop} (h : codeAny M A c R s) : codeC M A c R s := fun Γ p hc hΓ _ => h Γ p hc hΓ
theorem wpC_mono {t : Sem α} {Q Q' : α → Shared → Prop} {E' : Value → Shared → Prop} (h : wpC M A t Q E s) (hQ : ∀ a s, Q a s → Q' a s) (hE : ∀ e s, E e s → E' e s) : wpC M A t Q' E' s :=
  fun Γ p hΓ c => Sem.wp_mono M Γ t (fun a _ s => hQ a s) (fun e _ s => hE e s) p s (h Γ p hΓ c)
theorem wpC_bind {m : Sem α} {f : α → Sem β} {Q : β → Shared → Prop} (h : wpC M A m (fun a s' => wpC M A (f a) Q E s') E s) : wpC M A (m >>= f) Q E s := fun Γ p hΓ c => by
  rw [Sem.wp_bind']
  exact Sem.wp_mono M Γ m (fun a p' s' h' => h' Γ p' hΓ c) (fun _ _ _ h' => h') p s (h Γ p hΓ c)
theorem wpC_pure {a : α} {Q : α → Shared → Prop} (h : Q a s) : wpC M A (pure a) Q E s := fun _ _ _ _ => h
theorem wpC_holding {vs : List Value} {m : Sem α} {Q : α → Shared → Prop} (h : wpC M A m Q E s) : wpC M A (holding vs m) Q E s :=
  fun Γ p hΓ c => by rw [Sem.wp_holding]; exact h Γ p hΓ c
theorem wpC_onRaise {m : Sem α} {k : Value → Sem Unit} {Q : α → Shared → Prop} (h : wpC M A m Q (fun e s' => wpC M A (k e) (fun _ s'' => E e s'') E s') s) : wpC M A (m.onRaise k) Q E s := fun Γ p hΓ c => by
  rw [Sem.wp_onRaise]
  exact Sem.wp_mono M Γ m (fun _ _ _ h' => h') (fun e p' s' h' => h' Γ p' hΓ c) p s (h Γ p hΓ c)
theorem wpC_runValue {c : Code} {Q : Value → Shared → Prop} (hc : codeC M A c (fun r s' => match r with | .ok (.ret v) => Q v s' | .ok _ => False | .error e => E e s') s) : wpC M A (runValue c) Q E s :=
  fun Γ p hΓ k => by rw [Sem.wp_runValue]; exact hc _ p rfl (hΓ.enter c none p (by intro x; cases x)) (k.enter c none p)
theorem wpC_call {f : Value} {pos : List Value} {kw : List (Str × Value)} {Q : Value → Shared → Prop}
    (hc : codeC M A (.call f ⟨pos, kw⟩) (fun r s' => match r with | .ok (.ret v) => Q v s' | .ok _ => False | .error e => E e s') s) : wpC M A (PySem.call f pos kw) Q E s := wpC_runValue hc
theorem codeC_of_tree {c : Code} {R : Result → Shared → Prop} (hn : NoDec c)
    (h : wpC M (A.under c) (M.den c) (fun fin s' => match fin with | .done f => R (.ok f) s' | .again c' => c'.quiet = true ∧ codeC M A c' R s') (fun e s' => R (.error e) s') s) : codeC M A c R s := fun Γ p hc hΓ k => by
  rw [wpCode_iff_wp, hc]
  refine Sem.wp_mono M Γ _ (fun fin p' s' h' => ?_) (fun _ _ _ h' => h') p s (h Γ p (hc ▸ hΓ.in) ⟨hc ▸ hn, k⟩)
  cases fin with
  | done f => exact h'
  | again c' => exact ⟨h'.1, h'.2 (Γ.goto c') p' rfl (hΓ.goto c') k⟩
/-- the look at the stack, on a clean one -/
theorem wpC_stackAny {f : Code × Pos → Bool} {Q : Bool → Shared → Prop} (hf : ∀ c p, NoDec c → f (c, p) = false)
    (h : Q false s) : wpC M A (do return (← stack).any f) Q E s := fun Γ p hΓ k => by
  show Q (((Γ.code, p) :: Γ.below).any f) s
  have all : ((Γ.code, p) :: Γ.below).any f = false := by
    rw [List.any_eq_false]
    intro c hc
    rcases List.mem_cons.mp hc with rfl | hc
    · rw [hf _ _ k.1]; exact Bool.false_ne_true
    · obtain ⟨c, q⟩ := c
      rw [hf _ _ (k.2 _ hc)]; exact Bool.false_ne_true
  rw [all]
  exact h
end
end Mine
end
section
open PySem PySem.W PyProof.Rows PySem.Calls
open Builtin.Bytes (exported)
set_option Elab.async false
set_option maxRecDepth 100000
namespace Mine
theorem ba_mro : mroOf (.type "bytearray") = pure [.type "bytearray", .type "object"] := by rw [mroOf_type]; kernel_rfl
theorem ba_lookup_new : typeLookup (.type "bytearray") "__new__" = pure (some (.builtin "bytearray.__new__")) := by rw [typeLookup_type, builtinLookup_eq_fast]; kernel_rfl
theorem ba_slot_init : Slot "bytearray" "__init__" "bytearray.__init__" :=
  .of (owner := "bytearray") (n := "__init__") (by rw [typeLookup_type, builtinLookup_eq_fast]; kernel_rfl) (by decide +kernel) (by decide +kernel) (by decide +kernel)
    (by first | exact .inl (by decide +kernel) | exact .inr (by decide +kernel)) (by rw [isSubtype_type]; kernel_rfl)
theorem ba_sub : isSubtype (.type "bytearray") (.type "bytearray") = pure true := by rw [isSubtype_type]; kernel_rfl
theorem ba_called : TypeCalled "bytearray" "bytearray.__new__" "bytearray.__init__" :=
  ⟨by decide +kernel, by decide +kernel, ⟨_, _, ba_mro⟩, madeBy_type ba_mro ba_lookup_new (by decide +kernel), by decide +kernel, ba_sub, ba_slot_init⟩
theorem ba_typeCall (a : Value) : checkTypeCall "bytearray" ⟨[a], []⟩ = pure () := by kernel_rfl
theorem ba_newCall (a : Value) : checkBuiltinCall "bytearray.__new__" ⟨[.type "bytearray", a], []⟩ = pure () := by kernel_rfl
theorem ba_plain_new : plainId "bytearray.__new__" = true := by decide +kernel
theorem entry_alias {tbl : String → Option Builtin} {id c : String} {b : Builtin} (h0 : tbl id = none) (h3 : id.cutAt '#' = [id])
    (h2 : Manifest.canonical (id.map fun c => if c.isAlphanum || c == '_' || c == '.' then c else '_') ++ "" = c) (h1 : tbl c = some b) : entryFor tbl id = some b := by
  unfold entryFor
  rw [h0, h3]
  show (match tbl (Manifest.canonical (id.map fun c => if c.isAlphanum || c == '_' || c == '.' then c else '_') ++ "") with | some b => some b | none => _) = _
  rw [h2, h1]
theorem ba_tab_new : table "bytearray.__new__" = none := by rw [table_eq_fast]; kernel_rfl
theorem li_tab_new : table "list.__new__" = some Builtin.«list.__new__» := by rw [table_eq_fast]; kernel_rfl
theorem ba_canon_new : Manifest.canonical ("bytearray.__new__".map fun c => if c.isAlphanum || c == '_' || c == '.' then c else '_') ++ "" = "list.__new__" := by decide +kernel
theorem ba_cut_new : ("bytearray.__new__" : String).cutAt '#' = ["bytearray.__new__"] := by decide +kernel
theorem ba_entry_new : entryFor table "bytearray.__new__" = some Builtin.«list.__new__» := entry_alias ba_tab_new ba_cut_new ba_canon_new li_tab_new
theorem ba_entry_init : entryFor table "bytearray.__init__" = some Builtin.«bytearray.__init__» := by first | exact entryFor_of_fast (by kernel_rfl) | exact entryFor_of_tree (by kernel_rfl)
theorem ba_plain_init : plainId "bytearray.__init__" = true := by decide +kernel
theorem ba_bind (v : Value) : Builtin.Bytes.bindOptional "bytearray.__init__" "bytearray" ["source", "encoding", "errors"] [v] [] = pure [some v, none, none] := by kernel_rfl
theorem by_no_index : typeLookup (.type "bytes") "__index__" = pure none := by rw [typeLookup_type, builtinLookup_eq_fast]; kernel_rfl
theorem ba_release : typeLookup (.type "bytearray") "__release_buffer__" = pure (some (.builtin "bytearray.__release_buffer__")) := by rw [typeLookup_type, builtinLookup_eq_fast]; kernel_rfl
set_option maxRecDepth 1000000 in
set_option maxHeartbeats 4000000 in
theorem owner_ba_new : ("bytearray.__new__".splitOn ".__new__").headD "" = "bytearray" := by simp +decide [String.splitOn, String.splitOnAux]
end Mine
end
section
open PySem PySem.W PyProof.Rows PySem.Calls
open Builtin.Bytes (exported)
set_option Elab.async false
set_option maxRecDepth 100000
namespace Mine
section
variable {prog : Program} {w : World} {A : Around} {E : Value → Shared → Prop} {s : Shared}
theorem ba_code_new (a : Value) {Q₁ : Value → Shared → Prop}
    (h : Q₁ (.ref s.heap.objs.size) { s with heap := s.heap.push { cls := .type "bytearray", data := .bytearray #[] } }) :
    codeAny (model prog w) A (.call (.builtin "bytearray.__new__") ⟨[.type "bytearray", a], []⟩) (wants Q₁ E) s := by
  refine codeAny_of_tree ?_
  show wpAny _ A.in1 (do checkBuiltinCall "bytearray.__new__" ⟨[.type "bytearray", a], []⟩; again (.builtin "bytearray.__new__" ⟨[.type "bytearray", a], []⟩)) _ _ s
  refine wpAny_bind (wpAny_of_eq (ba_newCall a) (wpAny_pure ⟨plainId_quiet ba_plain_new _, codeAny_builtin_stack ba_entry_new rfl fun p st => ?_⟩))
  rw [Around.under_plainId ba_plain_new _]
  have hsub := ba_sub
  have hown := owner_ba_new
  obtain ⟨hp, g, d, tk, os⟩ := s
  simp only [hown]
  wp_walk
  exact h
end
theorem heldIds_key {id : String} {a : Args} (h : NoDec (.builtin id a)) (hm : id ∈ heldIds) : False := by
  have h' : heldIds.contains id = false := h
  rw [List.contains_iff_mem.mpr hm] at h'
  cases h'
theorem heldIds_dec {id : String} {a : Args} (h : NoDec (.builtin id a)) : Builtin.Bytes.decodersThatHold.contains id = false := by
  cases hc : Builtin.Bytes.decodersThatHold.contains id with
  | false => rfl
  | true => exact (heldIds_key h (List.mem_append_left _ (List.contains_iff_mem.mp hc))).elim
theorem exported_of (self : Value) : ∃ f : Code × Pos → Bool, exported self = (do return (← stack).any f) ∧ ∀ x : Code × Pos, NoDec x.1 → f x = false := by
  refine ⟨_, rfl, ?_⟩
  rintro ⟨c, p⟩ h
  cases c with
  | builtin id a =>
    have n1 : ¬ id = "bytearray.__contains__" := fun e => heldIds_key h (by rw [e]; decide +kernel)
    have n2 : ¬ id = "bytearray.__mod__" := fun e => heldIds_key h (by rw [e]; decide +kernel)
    have n3 : ¬ id = "bytearray.__rmod__" := fun e => heldIds_key h (by rw [e]; decide +kernel)
    have n4 : ¬ id = "_struct.pack_into.held" := fun e => heldIds_key h (by rw [e]; decide +kernel)
    have n5 : ¬ id = "bytearray.find.held" := fun e => heldIds_key h (by rw [e]; decide +kernel)
    have hd := heldIds_dec h
    obtain ⟨pos, kw⟩ := a
    cases pos with
    | nil =>
      delta exported.match_1 exported._sparseCasesOn_1
      dsimp only
      rw [dif_neg n1, dif_neg n2, dif_neg n3, dif_neg n4, dif_neg n5]
    | cons v vs =>
      delta exported.match_1 exported._sparseCasesOn_1
      dsimp only
      rw [dif_neg n1, dif_neg n2, dif_neg n3, dif_neg n4, dif_neg n5]
      exact Eq.trans (congrArg (Builtin.Bytes.sameRef v self && ·) hd) (Bool.and_false _)
  | _ => rfl
section
variable {M : Model} {A : Around} {E : Value → Shared → Prop} {s : Shared}
theorem wpC_exported {self : Value} {Q : Bool → Shared → Prop} (h : Q false s) : wpC M A (exported self) Q E s := by
  obtain ⟨f, e, hf⟩ := exported_of self
  rw [e]
  exact wpC_stackAny (fun c p hc => hf (c, p) hc) h
end
end Mine
end
section
open PySem PySem.W PyProof.Rows PySem.Calls
set_option Elab.async false
set_option maxRecDepth 100000
namespace Mine
theorem ba_rel_ends : ("bytearray.__release_buffer__" : String).endsWith ("." ++ "__release_buffer__") = true := by decide +kernel
theorem ba_rel_drop : ("bytearray.__release_buffer__" : String).dropRight (("__release_buffer__" : String).length + 1) = "bytearray" := by decide +kernel
theorem by_buffer_full {id : String} {b : Array UInt8} {t : Tok} : Builtin.Bytes.buffer? id (.bytes b t) true = pure (some b) := by
  unfold Builtin.Bytes.buffer?
  rw [PySem.W.KBy.special_eq PySem.W.KBy.look_buffer, PySem.W.KBy.own_buffer, PySem.W.KBy.own_release]
  kernel_rfl
section
variable {prog : Program} {w : World} {A : Around} {E : Value → Shared → Prop} {s : Shared} {a : Addr} {o : Array UInt8}
theorem ba_typeIs (hS : s.heap.get? a = some { cls := .type "bytearray", data := .bytearray o }) : s.TypeIs (.ref a) "bytearray" := ⟨_, hS, rfl⟩
theorem wpAny_ownRelease {Q : Bool → Shared → Prop} (hT : s.TypeIs (.ref a) "bytearray") (h : Q false s) : wpAny (model prog w) A (Builtin.Bytes.ownRelease (.ref a)) Q E s := by
  unfold Builtin.Bytes.ownRelease
  refine wpAny_bind ?_
  unfold Builtin.Bytes.slotIsOwn
  refine wpAny_bind (wpAny_specialOf hT ba_release ?_)
  dsimp only
  rw [ba_rel_ends, ba_rel_drop]
  refine bm_if_false rfl ?_
  refine wpAny_isInstance hT ba_sub ?_
  exact wpAny_pure h
theorem wpAny_baWrite {Q : Unit → Shared → Prop} {f : Array UInt8 → Array UInt8} (hS : s.heap.get? a = some { cls := .type "bytearray", data := .bytearray o }) (hz : (f o).size ≤ sizeLine)
    (h : Q () { s with heap := s.heap.update a (Obj.mapBytearray f) }) : wpAny (model prog w) A (Builtin.Bytes.write (.ref a) f) Q E s := by
  show wpAny _ _ (updateBytearray a f) _ _ _
  unfold updateBytearray
  refine wpAny_bind (wpAny_load hS ?_)
  show wpAny _ _ (update a (Obj.mapBytearray f) >>= fun _ => lookBehind a) _ _ _
  refine wpAny_bind (wpAny_update hS ?_)
  have hS₂ : (s.heap.update a (Obj.mapBytearray f)).get? a = some { cls := .type "bytearray", data := .bytearray (f o) } := Heap.get?_update_self (Obj.mapBytearray f) hS rfl
  refine wpAny_lookBehind (s := { s with heap := s.heap.update a (Obj.mapBytearray f) }) hS₂ ?_ h
  show (if (f o).size > sizeLine then some "bytearray:memory" else none) = none
  rw [if_neg]
  omega
theorem wpC_if_false {α : Type} {M : Model} {c : Bool} {x y : Sem α} {Q : α → Shared → Prop} (hc : c = false) (h : wpC M A y Q E s) : wpC M A (if c = true then x else y) Q E s := by
  subst hc
  exact h
theorem ba_init {b : Array UInt8} {t : Tok} {Q : Fin → Shared → Prop} (hS : s.heap.get? a = some { cls := .type "bytearray", data := .bytearray #[] }) (hz : b.size ≤ sizeLine)
    (h : Q (.done (.ret .none)) { s with heap := (s.heap.update a (Obj.mapBytearray fun _ => #[])).update a (Obj.mapBytearray fun _ => b) }) :
    wpC (model prog w) A (Builtin.«bytearray.__init__» ⟨[.ref a, .bytes b t], []⟩) Q E s := by
  have hT := ba_typeIs hS
  unfold Builtin.«bytearray.__init__»
  refine wpC_bind (wpC_of (wpAny_ownRelease hT ?_))
  refine wpC_if_false rfl ?_
  refine wpC_bind (wpC_of (wpAny_of_eq (ba_bind _) ?_))
  refine wpC_bind (wpC_of (wpAny_of_eq (a := ()) rfl ?_))
  refine wpC_bind (wpC_of (wpAny_of_eq (a := ()) rfl ?_))
  refine wpC_bind ?_
  show wpC _ _ (Builtin.Bytes.exported (.ref a) >>= _) _ _ _
  refine wpC_bind (wpC_exported ?_)
  show wpC _ _ (Builtin.Bytes.exportsOf (.ref a) >>= _) _ _ _
  refine wpC_bind (wpC_of ?_)
  show wpAny _ _ (load a >>= _) _ _ _
  refine wpAny_bind (wpAny_load hS ?_)
  refine wpAny_pure ?_
  refine wpC_pure ?_
  refine wpC_if_false rfl ?_
  refine wpC_of ?_
  refine wpAny_bind (wpAny_baWrite hS (by show (0:Nat) ≤ sizeLine; omega) ?_)
  have hS₂ : (s.heap.update a (Obj.mapBytearray fun _ => #[])).get? a = some { cls := .type "bytearray", data := .bytearray #[] } := Heap.get?_update_self (Obj.mapBytearray fun _ => #[]) hS rfl
  refine wpAny_bind (wpAny_of_eq (a := none) rfl ?_)
  refine bm_if_false rfl ?_
  refine wpAny_bind (wpAny_of_eq (a := ()) rfl ?_)
  refine wpAny_bind (wpAny_specialOf (T := "bytes") rfl by_no_index ?_)
  refine bm_if_false rfl ?_
  show wpAny _ _ (Builtin.Bytes.buffer? "bytearray.__init__" (.bytes b t) true >>= _) _ _ _
  refine wpAny_bind (wpAny_of_eq by_buffer_full ?_)
  refine wpAny_bind (wpAny_rule ?_)
  exact wpAny_bind (wpAny_baWrite hS₂ hz (wpAny_pure h))
theorem codeC_builtin {id : String} {args : Args} {b : Builtin} {R : Result → Shared → Prop} (hb : entryFor table id = some b) (hn : NoDec (.builtin id args))
    (h : wpC (model prog w) (A.under (.builtin id args)) (b args)
      (fun fin s' => match fin with | .done f => R (.ok f) s' | .again c' => c'.quiet = true ∧ codeC (model prog w) A c' R s') (fun e s' => R (.error e) s') s) :
    codeC (model prog w) A (.builtin id args) R s := by
  refine codeC_of_tree hn ?_
  have hden : (model prog w).den (.builtin id args) = b args := by
    show (match entryFor table id with | some b => b args | none => unsupported ((withoutEnding? id "#data").getD id)) = _
    rw [hb]
  rw [hden]
  exact h
theorem ba_args (x y : Value) : argsOk "bytearray.__init__" ⟨[x, y], []⟩ := by
  first | exact rfl | kernel_rfl | decide +kernel | exact trivial
/-- `bytearray(b)` of a bytes b, on a clean stack -/
theorem call_bytearray {b : Array UInt8} {t : Tok} {Q : Value → Shared → Prop} (hz : b.size ≤ sizeLine)
    (h : ∀ h', h'.get? s.heap.objs.size = some { cls := .type "bytearray", data := .bytearray b } → Heap.SameBut s.heap.objs.size (s.heap.push { cls := .type "bytearray", data := .bytearray #[] }) h' → Q (.ref s.heap.objs.size) { s with heap := h' }) :
    wpC (model prog w) A (call (.type "bytearray") [.bytes b t]) Q E s := by
  obtain ⟨c, tl, hmro⟩ := ba_called.mro
  have hmade := ba_called.made
  have hsub := ba_called.sub
  have h1 := ba_called.notType
  have h2 := ba_called.canCreate
  refine wpC_call (codeC_of_tree trivial ?_)
  show wpC _ _ (callAny (.type "bytearray") _) _ _ _
  refine wpC_pure ⟨Code.quiet_builtin _ (by decide +kernel), codeC_builtin F.entry_type_call (by show heldIds.contains _ = false; decide +kernel) ?_⟩
  rw [Around.under_plain (weight_type_call_type "bytearray" [.bytes b t] []) rfl]
  unfold Builtin.«type.__call__»
  refine wpC_if_false h1 ?_
  refine wpC_if_false h2 ?_
  refine wpC_bind (wpC_of (wpAny_of_eq (ba_typeCall _) ?_))
  refine wpC_bind (wpC_of (wpAny_of_eq hmro ?_))
  refine wpC_if_false rfl ?_
  refine wpC_bind (wpC_of (wpAny_of_eq hmade ?_))
  refine wpC_bind (wpC_pure ?_)
  have hS : (s.heap.push { cls := .type "bytearray", data := .bytearray #[] }).get? s.heap.objs.size = some { cls := .type "bytearray", data := .bytearray #[] } := Heap.get?_push_size _ rfl
  refine wpC_bind (wpC_holding (wpC_of (wpAny_call (ba_code_new _ ?_))))
  refine wpC_bind (wpC_of (wpAny_isInstance (ba_typeIs (s := { s with heap := s.heap.push { cls := .type "bytearray", data := .bytearray #[] } }) hS) ba_sub ?_))
  refine wpC_if_false rfl ?_
  refine wpC_bind (wpC_holding ?_)
  unfold callSpecial?
  refine wpC_bind (wpC_of (wpAny_specialOf (ba_typeIs (s := { s with heap := s.heap.push { cls := .type "bytearray", data := .bytearray #[] } }) hS) ba_slot_init.lookup ?_))
  refine wpC_holding ?_
  refine wpC_bind (wpC_of (wpAny_of_eq (ba_slot_init.bind _) ?_))
  show wpC _ _ (call (.builtin "bytearray.__init__") [.ref s.heap.objs.size, .bytes b t] [] >>= _) _ _ _
  refine wpC_bind (wpC_call (codeC_of_tree trivial ?_))
  show wpC _ _ (do checkBuiltinCall "bytearray.__init__" ⟨[.ref s.heap.objs.size, .bytes b t], []⟩; again (.builtin "bytearray.__init__" ⟨[.ref s.heap.objs.size, .bytes b t], []⟩)) _ _ _
  refine wpC_bind (wpC_of (ba_slot_init.check _ _ _ _ _ _ _ _ (ba_typeIs (s := { s with heap := s.heap.push { cls := .type "bytearray", data := .bytearray #[] } }) hS) (ba_args _ _) ?_))
  refine wpC_pure ⟨plainId_quiet ba_plain_init _, codeC_builtin ba_entry_init (by show heldIds.contains _ = false; decide +kernel) ?_⟩
  rw [Around.under_plainId ba_plain_init _]
  refine ba_init (s := { s with heap := s.heap.push { cls := .type "bytearray", data := .bytearray #[] } }) hS hz ?_
  have hS₂ : ((s.heap.push { cls := .type "bytearray", data := .bytearray #[] }).update s.heap.objs.size (Obj.mapBytearray fun _ => #[])).get? s.heap.objs.size = some { cls := .type "bytearray", data := .bytearray #[] } := Heap.get?_update_self (Obj.mapBytearray fun _ => #[]) hS rfl
  have hS₃ : (((s.heap.push { cls := .type "bytearray", data := .bytearray #[] }).update s.heap.objs.size (Obj.mapBytearray fun _ => #[])).update s.heap.objs.size (Obj.mapBytearray fun _ => b)).get? s.heap.objs.size = some { cls := .type "bytearray", data := .bytearray b } := Heap.get?_update_self (Obj.mapBytearray fun _ => b) hS₂ rfl
  refine wpC_pure ?_
  refine wpC_if_false rfl ?_
  exact wpC_pure (h _ hS₃ ((Heap.SameBut.update ..).trans (Heap.SameBut.update ..)))
end
end Mine
end
section
open PySem PySem.W PyProof.Rows PySem.Calls
set_option Elab.async false
namespace Mine
section
variable {M : Model} {A : Around} {E : Value → Shared → Prop} {s : Shared} {env : Env}
theorem wpC_execs_nil {Q : Flow → Shared → Prop} (h : Q .next s) : wpC M A (execs [] env) Q E s := fun _ _ _ _ => h
theorem wpC_execs_cons {st : Stmt} {rest : List Stmt} {Q : Flow → Shared → Prop}
    (h : wpC M A (exec st env) (fun f s' => match f with | .next => wpC M A (execs rest env) Q E s' | f => Q f s') E s) :
    wpC M A (execs (st :: rest) env) Q E s := fun Γ p hΓ k => by
  rw [execs_cons, Sem.wp_bind']
  refine Sem.wp_mono M Γ _ (fun f p' s' h' => ?_) (fun _ _ _ h' => h') _ _ (h Γ p hΓ k)
  cases f <;> first | exact h' Γ p' hΓ k | exact h'
/-- an ordinary statement ahead, walked by the library -/
theorem wpC_execs_any {st : Stmt} {rest : List Stmt} {Q : Flow → Shared → Prop}
    (h : wpAny M A (exec st env) (fun f s' => match f with | .next => wpC M A (execs rest env) Q E s' | f => Q f s') E s) :
    wpC M A (execs (st :: rest) env) Q E s := wpC_execs_cons (wpC_of h)
theorem codeC_mono {c : Code} {R R' : Result → Shared → Prop} (h : codeC M A c R s) (hR : ∀ r s, R r s → R' r s) : codeC M A c R' s :=
  fun Γ p hc hΓ k => wpCode_mono hR (h Γ p hc hΓ k)
end
end Mine
end
section
open PySem PySem.W PyProof.Rows PySem.Calls
set_option Elab.async false
namespace Mine
section
variable {prog : Program} {w : World} {A : Around} {s : Shared} {R : Result → Shared → Prop}
theorem codeC_func {body : List Stmt} {env : Env}
    (h : wpC (model prog w) (A.deeper env) (execs body env) (fun f s' => R (.ok (.ret (match f with | .ret v => v | _ => .none))) s')
      (fun e s' => wpC (model prog w) (A.deeper env) (leaving env e) (fun _ s'' => R (.error e) s'') (fun e' s'' => R (.error e') s'') s') s) :
    codeC (model prog w) A (.func body env) R s := by
  refine codeC_of_tree trivial ?_
  show wpC _ (A.deeper env) (do point; match ← (execs body env).onRaise (leaving env) with | .ret v => ret v | _ => ret .none) _ _ s
  refine wpC_bind (wpC_of (wpAny_point ?_))
  refine wpC_bind (wpC_onRaise (wpC_mono h (fun f s' h' => ?_) fun _ _ h' => h'))
  cases f <;> exact wpC_pure h'
theorem codeC_call_function {a : Addr} {args : Args} {o : Obj} {fd : FuncData} {body : List Stmt} (hroom : A.depth < recursionLimit)
    (ho : s.heap.get? a = some o)
    (hd' : o.data = .func fd) (hco : fd.scope.isCoroutine = false) (hgen : fd.scope.isGenerator = false) (hbody : fd.body = .stmts body) (hcd : s.heap.CodeRec fd.code fd.qualname)
    (h : wpAny (model prog w) A.in1 (bindArgs fd args) (fun binds s₁ =>
      wpAny (model prog w) A.in1 (newFunctionEnv fd.scope fd.globals fd.closure binds (fd.qualname ++ ".<locals>.") (some a) fd.code none fd.builtins)
        (fun env s₂ => s₂.heap.NoLimit ∧ codeC (model prog w) A (.func body env) R s₂) (fun e s' => R (.error e) s') s₁) (fun e s' => R (.error e) s') s) :
    codeC (model prog w) A (.call (.ref a) args) R s := by
  refine codeC_of_tree trivial ?_
  show wpC _ A.in1 (callAny (.ref a) args) _ _ s
  refine wpC_of ?_
  simp only [callAny]
  refine wpAny_bind (wpAny_load ho ?_)
  obtain ⟨c, oc, vs, tq, hc, hoc, hdc, hq⟩ := hcd
  simp only [hd', callFunction, hco, hgen, hbody, hc]
  rw [hc] at h
  refine wpAny_bind (m := field (.ref c) 1) (wpAny_field hoc hdc hq (wpAny_bind (wpAny_pure ?_)))
  exact wpAny_bind (wpAny_mono h (fun binds s₁ h₁ => wpAny_bind (wpAny_mono h₁ (fun env s₂ h₂ => wpAny_bind (wpAny_enterFrame h₂.1 hroom
    (wpAny_pure (And.intro rfl h₂.2)))) fun _ _ h' => h')) fun _ _ h' => h')
theorem codeC_call_def {a : Addr} {o : Obj} {fd : FuncData} {body : List Stmt} {args : Args} {binds : List (Str × Value)}
    (hroom : A.depth < recursionLimit) (ho : s.heap.get? a = some o) (hdata : o.data = .func fd) (hlim : s.heap.NoLimit) (hcd : s.heap.CodeRec fd.code fd.qualname)
    (hbody : fd.body = .stmts body) (hbind : BindsTo s fd args binds)
    (hcell : ∀ x ∈ fd.scope.names, x.2 ≠ .cell) (hloc : ∀ x ∈ binds, fd.scope.names.lookup x.1 = some .local)
    (h : ∀ h₀, h₀.Ns s.heap.objs.size (fun x => binds.reverse.lookup x) → (∀ b o, s.heap.get? b = some o → h₀.get? b = some o) →
      wpC (model prog w) (A.deeper (callEnv fd s.heap.objs.size a)) (execs body (callEnv fd s.heap.objs.size a)) (fun f s' => R (.ok (.ret (match f with | .ret v => v | _ => .none))) s')
        (fun e s' => wpC (model prog w) (A.deeper (callEnv fd s.heap.objs.size a)) (leaving (callEnv fd s.heap.objs.size a) e) (fun _ s'' => R (.error e) s'') (fun e' s'' => R (.error e') s'') s')
        { s with heap := h₀, toks := s.toks + binds.length })
    (hco : fd.scope.isCoroutine = false := by rfl) (hgen : fd.scope.isGenerator = false := by rfl) (hk : fd.scope.kind = .function := by rfl) :
    codeC (model prog w) A (.call (.ref a) args) R s := by
  refine codeC_call_function hroom ho hdata hco hgen hbody hcd (hbind _ _ _ _ ?_)
  refine wpAny_newFunctionEnv hcell hloc (fun h₀ hns₀ hsb₀ => ⟨hlim.fresh _ hsb₀, codeC_func (h h₀ hns₀ fun b o e => ?_)⟩) hk
  exact hsb₀.extBut b o (Nat.ne_of_lt (Heap.lt_size e)) (Heap.get?_push_of_some _ e)
end
end Mine
end
section
open PySem PySem.W PyProof.Rows PySem.Calls
set_option Elab.async false
namespace Mine
theorem code_defW {prog : Program} {w : World} {A₀ A : Around} {s : Shared} {base h₀ : Heap} {outer : List Env} {L : Addr} {m : Str → Option Value} {env : Env} {news : List (Addr × Obj)} {K : Frag} {p : Program} {loose : List Str} {mean : ExcName → Option Value} {mg mb : Str → Option Value}
    {R : Result → Shared → Prop} {name qual : Str} {params : Arguments} {body : List Stmt} {scope : Scope} {dV kV doc pm cdv ct oc : Value} {an od : Option Addr} {osl : Array (Option Value)} {f : Addr} {args : Args} {binds : List (Str × Value)}
    (B : Below A₀ base outer h₀) (F : Fr h₀ L s.heap m) (X₀ : K.In h₀) (N : News h₀ L s.heap news) (T : Top p loose mean mg mb h₀) (hA : A.frames = some (env :: outer)) (hf : env.frame = some L) (hke : env.scope.kind = .function)
    (ho : K.lookup f = some ⟨oc, od, .func (fnOf name qual params body scope dV kV doc pm an cdv ct), osl⟩) (hcd : codeIn K cdv qual = true) (hroom : A.depth < recursionLimit)
    (hbind : BindsTo s (fnOf name qual params body scope dV kV doc pm an cdv ct) args binds) (hloc : ∀ y ∈ binds, scope.names.lookup y.1 = some .local)
    (h : ∀ g L' h₁, Fr h₀ L g m → Fr g L' h₁ (fun y => binds.reverse.lookup y) → News g L' h₁ news → Below A base (env :: outer) g → K.In g → Top p loose mean mg mb g →
      wpC (model prog w) (A.deeper (envOf qual scope L' f cdv)) (execs body (envOf qual scope L' f cdv))
        (fun fl s' => LeaveK h₀ L m g R (match fl with | .ret v => v | _ => .none) s')
        (fun e s' => wpC (model prog w) (A.deeper (envOf qual scope L' f cdv)) (leaving (envOf qual scope L' f cdv) e) (fun _ s'' => R (.error e) s'') (fun e' s'' => R (.error e') s'') s')
        { s with heap := h₁, toks := s.toks + binds.length })
    (hco : scope.isCoroutine = false) (hgen : scope.isGenerator = false) (hk : scope.kind = .function)
    (hcell : ∀ x ∈ scope.names, x.2 ≠ .cell) : codeC (model prog w) A (.call (.ref f) args) R s := by
  have X := X₀.keeps F.keep
  obtain ⟨FG, BG, SG, back⟩ := groundX (R := R) B F N hA hf hke
  refine codeC_call_def (fd := fnOf name qual params body scope dV kV doc pm an cdv ct) (body := body) (binds := binds) hroom (X _ _ ho) rfl (T.nolimit.keeps F.keep) (codeRec_of X hcd) rfl hbind hcell hloc (fun h₁ hns hk₁ => ?_) hco hgen hk
  have NG : News (hideAll s.heap (news.map (·.1))) s.heap.objs.size h₁ news := fun q hq =>
    ⟨hk₁ _ _ (N q hq).1, Nat.ne_of_lt (Heap.lt_size (N q hq).1), hideAll_none _ (List.mem_map_of_mem hq)⟩
  exact wpC_mono (h _ s.heap.objs.size h₁ FG ⟨hns, fun b o e => hk₁ b o (of_hideAll _ e), Nat.le_of_eq (hideAll_size _ _)⟩ NG BG (X₀.keeps SG) (T.keeps SG)) (fun fl s' hl => back _ _ hl) fun _ _ y => y
end Mine
end
section
open PySem PySem.W PyProof.Rows PySem.Calls
set_option Elab.async false
namespace Mine
theorem caller_clean : Clean (⟨.builtin "claim.caller" {}, none, none, [], none⟩ : Ctx) := ⟨by show heldIds.contains _ = false; decide +kernel, fun _ h => nomatch h⟩
theorem wp_of_wpC_done {M : Model} {A : Around} {Γ : Ctx} {t : Sem Fin} {R : Result → Shared → Prop} {s : Shared} (hin : Γ.In A) (hc : Clean Γ)
    (h : wpC M A t (fun fin s' => ∃ f, fin = .done f ∧ R (.ok f) s') (fun e s' => R (.error e) s') s) (p : Pos) :
    Sem.wp M Γ t (Sem.finPost M Γ R) (fun e _ s' => R (.error e) s') p s := by
  refine Sem.wp_mono M Γ t (fun fin p' s' h' => ?_) (fun _ _ _ h' => h') p s (h Γ p hin hc)
  obtain ⟨f, rfl, hR⟩ := h'
  exact hR
theorem thread_ends_C {prog : Program} {w : World} {t : Sem Fin} {s : Shared} {R : Result → Shared → Prop} (hreg : s.asleep)
    (h : wpC (model prog w) callerA t (fun fin s' => ∃ f, fin = .done f ∧ (R (.ok f) s' ∧ leftWithCleanup s'.gens = false)) (fun e s' => R (.error e) s' ∧ leftWithCleanup s'.gens = false) s) :
    ∃ n r s' s'', runN (denote table) prog w n s ⟨t, .builtin "claim.caller" {}, default, []⟩ = .halted (outcomeOf r) s' ∧
      schedN (denote table) prog w n (.single s ⟨t, .builtin "claim.caller" {}, default, []⟩) = .halted (outcomeOf r) s' ∧ s'.forget = s''.forget ∧ R r s'' := by
  obtain ⟨n, r, s₁, s₂, hs, hn, hfo, hR⟩ := wp_halts_full (M := model prog w) (R := R) hreg (wp_of_wpC_done (R := fun r s' => R r s' ∧ leftWithCleanup s'.gens = false) caller_in caller_clean h default)
  exact ⟨n, r, s₂, s₁, hn, hs, hfo, hR⟩
end Mine
end
section
open PySem PySem.W PyProof.Rows PySem.Calls
set_option Elab.async false
set_option maxRecDepth 100000
namespace Mine
/-- the caller's thread comes to its end, judged over the caller's own stack alone -/
theorem thread_done {c : ClaimW} {w : World} {s s₁ : Shared} {t : Sem Fin} {args : List WData} {vs : List Value} {kept : Heap → Prop} (hz : s₁.asleep)
    (h : wpC (model c.prog w) callerA t (fun fin s' => ∃ f, fin = .done f ∧ c.Ends s args vs s₁ (.ok f) s' ∧ s'.os = s.os ∧ AllBare s'.gens ∧ kept s'.heap)
      (fun e s' => c.Ends s args vs s₁ (.error e) s' ∧ s'.os = s.os ∧ AllBare s'.gens ∧ kept s'.heap) s₁) :
    ∃ n r s', schedN (denote table) c.prog w n (.single s₁ ⟨t, .builtin "claim.caller" {}, default, []⟩) = .halted (outcomeOf r) s' ∧
      runN (denote table) c.prog w n s₁ ⟨t, .builtin "claim.caller" {}, default, []⟩ = .halted (outcomeOf r) s' ∧ c.Ends s args vs s₁ r s' ∧ s'.os = s.os ∧ kept s'.heap := by
  have g : wpC (model c.prog w) callerA t (fun fin s' => ∃ f, fin = .done f ∧ (c.Ends s args vs s₁ (.ok f) s' ∧ s'.os = s.os ∧ kept s'.heap) ∧ leftWithCleanup s'.gens = false)
      (fun e s' => (c.Ends s args vs s₁ (.error e) s' ∧ s'.os = s.os ∧ kept s'.heap) ∧ leftWithCleanup s'.gens = false) s₁ :=
    wpC_mono h (fun fin s' ⟨f, e, a, b, b', d⟩ => ⟨f, e, ⟨a, b, d⟩, leftWithCleanup_false_of_bare b'⟩) fun e s' ⟨a, b, b', d⟩ => ⟨⟨a, b, d⟩, leftWithCleanup_false_of_bare b'⟩
  obtain ⟨n, r, run, sch, s'', s', hrun, hsch, hfo, ha, hb, hd⟩ : ∃ n r, ∃ (_ _ : True), ∃ s'' s', runN (denote table) c.prog w n s₁ ⟨t, .builtin "claim.caller" {}, default, []⟩ = .halted (outcomeOf r) s' ∧
      schedN (denote table) c.prog w n (.single s₁ ⟨t, .builtin "claim.caller" {}, default, []⟩) = .halted (outcomeOf r) s' ∧ s'.forget = s''.forget ∧ c.Ends s args vs s₁ r s'' ∧ s''.os = s.os ∧ kept s''.heap := by
    obtain ⟨n, r, x, y, q1, q2, q3, q4⟩ := thread_ends_C (prog := c.prog) (w := w) (t := t) (R := fun r s' => c.Ends s args vs s₁ r s' ∧ s'.os = s.os ∧ kept s'.heap) hz g
    exact ⟨n, r, trivial, trivial, y, x, q1, q2, q3, q4⟩
  have q := Shared.forget_eq hfo
  refine ⟨n, r, s', hsch, hrun, ClaimW.Ends.congr q.1 ha, ?_, ?_⟩
  · exact q.2.2.2.1.trans hb
  · rw [q.1]; exact hd
/-- a hypothesis kept in sight of a goal -/
abbrev HeldBy {P : Prop} (_ : P) (r : OpenRow) : Prop := r.Holds
def KeepIn {P : Prop} (_ : P) (Q : Prop) : Prop := Q
theorem keep_of {P Q : Prop} {x : P} (h : Q) : KeepIn x Q := h
structure Bx (P : Prop) : Prop where
  get : P
/-- what a walk over clean stacks has to show: as the library's WalkO, over clean stacks -/
abbrev WalkC (q : Program) (loose : List Str) (XP : (Str → Option Value) → Heap → Prop) (YP : World → Heap → Prop) (r : RowW) (d : DefRec) (kwd : List (Str × Expr)) (run : Value → List Value → Sem Value) : Prop :=
  ∀ (w : World) (s₀ s₁ : Shared) (mg mb : Str → Option Value), Ground q loose r.records XP w s₀ mg mb s₁.heap → YP w s₁.heap → ∀ (a : Addr) (o : Obj) (pm cd doc dV kV : Value), s₁.heap.get? a = some o →
    o.data = .func { docDef d.name d.params d.body d.scope pm cd doc with defaults := dV, kwdefaults := kV } → s₁.heap.CodeRec cd d.name → Dflts mg s₁.heap d.params kwd dV kV → mg d.name = some (.ref a) → s₁.gens = #[] →
    ∀ (args : List WData) (vals : List Value) (as : List Addr), r.claim.pre args = true → WData.layableAll args = true → ReadsAllW r.records (classAt s₀.heap) s₁.heap vals args as → WellAll w.params s₁.heap vals args → (∀ a ∈ as, (a == sysModules) = false) →
      wpC (model r.prog w) callerA (run (.ref a) vals) (fun v s' => GoodWG r.claim (classAt s₀.heap) (ExcName.means s₀.heap) args s₁ (.ok (.ret v)) s')
        (fun e s' => GoodWG r.claim (classAt s₀.heap) (ExcName.means s₀.heap) args s₁ (.error e) s') s₁
theorem PySem.W.holds_open {Px : Prop} {kx : Px} {r : OpenRow} {q : Program} {loose : List Str} {Xt : Shared → Bool} {XP : (Str → Option Value) → Heap → Prop} {α : Type} {Yf : Shared → α} {Ya : World → α} {YP : World → Heap → Prop} {d : DefRec} {kwd : List (Str × Expr)} {N : Nat}
    (left : LeftO r.prog q loose Xt Yf Ya N) (hY : ∀ w s, Yf s = Ya w → YP w s.heap) (hYk : ∀ w h h', YP w h → (∀ b o, h.get? b = some o → h'.get? b = some o) → YP w h')
    (hX : ∀ s, Xt s = true → XP (s.heap.nsMap mainGlobals) s.heap) (hXk : ∀ mg h h', XP mg h → (∀ b o, h.get? b = some o → h'.get? b = some o) → XP mg h')
    (hdef : defOf q r.name = some (d, kwd)) (hp : r.prog.theDef r.name = some (d.params, d.body, d.scope)) (hk : kwWritten? d.params.kwonlyargs d.params.kw_defaults = some kwd) (hRf : ∀ s, Xt s = true → RecFacts r.records s.heap) (hwr : (!r.writes || r.records.isEmpty) = true)
    (k1 : r.wellSaid = true) (ok : (chainsOk q && opensWell r.prog && (frees r.toRowW && r.within.isEmpty)) = true) (hb : r.prog.bare) (hw : r.toRowW.promised)
    (call : KeepIn kx (WalkC q loose XP YP r.toRowW d kwd fun f vs => PySem.call f vs)) : HeldBy kx r := by
  replace call : WalkC q loose XP YP r.toRowW d kwd fun f vs => PySem.call f vs := call
  show r.Holds
  simp only [Bool.and_eq_true] at ok
  obtain ⟨⟨chains, opens⟩, free, within⟩ := ok
  obtain ⟨same, fu, fa, fap, makers⟩ := frees_parts free
  have ident := ident_freeW fu fa fap
  refine ⟨k1, hw, ⟨hb, opens, by show r.toRowW.makers.map _ = []; rw [makers]; rfl⟩, hw.witness, fun w => ?_⟩
  have top := left.behind (XP := fun mg h => XP mg h ∧ RecFacts r.records h) (fun s hs => ⟨hX s hs, hRf s hs⟩) chains w
  refine ⟨(left.behind hX chains w).1, fun s' ran => ?_⟩
  obtain ⟨s₀, fence, g0, s, hT, asleep, gensz, glob, gr, yv⟩ := top.2 s' ran
  have gr0 : Ground q loose [] XP w s (s.heap.nsMap mainGlobals) (s.heap.nsMap builtinsNs) s.heap := ⟨gr.T, gr.B, gr.D, gr.TE, gr.TD, gr.W, gr.X.1, gr.cls, gr.has, gr.apart, gr.once, gr.K⟩
  have recs := gr.X.2
  refine ⟨s₀, fence, g0, s, hT, fun n hn => ?_, recs.1, recs.2.1, fun args hpre hlay ord perm => ?_⟩
  · obtain rfl : n = r.name := by split at hn <;> simp_all
    exact pinned_of_view glob gr0 hdef hp hk
  have noGens : s.gens = #[] := Array.eq_empty_of_size_eq_zero (beq_iff_eq.mp gensz)
  have ground := recs.ground gr0
  obtain ⟨⟨vs, s₁⟩, laid⟩ := Option.isSome_iff_exists.mp (layAllW_isSome (P := w.params) (ord := ord) ground.has args r.toRowW.args s (pre_splitW hpre).1)
  have keeps := layAllW_keeps _ _ _ laid
  have rest := layAllW_rest _ _ _ laid
  obtain ⟨as, reads, inn, old⟩ := reads_layAllW perm _ _ _ laid hlay s₁.heap (fun _ _ e => e)
  have L : Laid r.toRowW.records w s s₁ args vs as := ⟨⟨ord, perm, laid⟩, reads, inn, old, keeps, rest.1.trans noGens, rest.2.2.1⟩
  have ground₁ := ground.keeps hXk keeps
  obtain ⟨a, o, pm, cd, doc, dV, kV, f1, f2, f3, f4, f5⟩ := ground₁.fn hdef
  have walk := call w s s₁ _ _ ground₁ (hYk _ _ _ (hY w s yv) keeps) a o pm cd doc dV kV f2 f3 f4 f5 (defOf_name hdef ▸ f1) L.gens args vs as hpre hlay L.reads L.well (L.low ground.low)
  have pass : ∀ res s'', GoodWG r.toRowW.claim (classAt s.heap) (ExcName.means s.heap) args s₁ res s'' →
      r.toRowW.claim.Ends s args vs s₁ res s'' ∧ s''.os = s.os ∧ AllBare s''.gens ∧ (r.writes = true → namesKept r.prog r.keeps s.heap s''.heap ∧ ∀ x ∈ r.toRowW.records, ∀ a, classAt s.heap x.1 = some a → recordClass s''.heap a x.1 (x.2.map (·.1)) = true) := fun res s'' gd =>
    have z := gd.laid (c := r.toRowW.claim) same (List.isEmpty_iff.mp within) ident L
    ⟨z.1, z.2.1, z.2.2, fun qq => ⟨namesKept_of hT glob r.keeps keeps gd.2.1.old, noTable hwr qq⟩⟩
  obtain ⟨n, res, s2, sch, hrun, ends, os, kept⟩ := thread_done (c := r.toRowW.claim) (w := w) (s := s) (s₁ := s₁) (args := args) (vs := vs)
    (t := do match ← nsGet mainNs r.name with
      | some f => do ret (← PySem.call f vs)
      | none => unsupported "claim.caller:no-such-global")
    (kept := fun h' => r.writes = true → namesKept r.prog r.keeps s.heap h' ∧ ∀ x ∈ r.toRowW.records, ∀ a, classAt s.heap x.1 = some a → recordClass h' a x.1 (x.2.map (·.1)) = true)
    (Shared.asleep_of_life rest.2.2.2 asleep)
    (wpC_bind (wpC_of (wpAny_nsGet ground₁.T.g (by
      rw [f1]
      exact wpC_bind (wpC_mono walk (fun v s'' gd => wpC_pure ⟨_, rfl, pass _ _ gd⟩) fun e s'' gd => pass _ _ gd)))))
  have life : s2.heap.life = s.heap.life := (runN_life _ _ _ hrun).trans rest.2.2.2
  refine ⟨vs, s₁, laid, n, _, s2, sch, ?_, (fun _ i x hx => by rw [noGens] at hx; simp at hx), kept, by rw [life], Shared.rest_eq os⟩
  rcases ends with ⟨v, rfl, d1, d2, d3, d4, d5⟩ | ⟨e, ob, cls, rfl, d1, d2, d3, d4, d5⟩
  · exact .inl ⟨v, rfl, d1, d2, d3, fun b o y _ => d4 b o y, d5⟩
  · exact .inr ⟨e, ob, cls, rfl, d1, d2, d3, d4, fun b o y _ => d5 b o y⟩
/-- a statement with what is left of it -/
structure Pk (G : Prop) where
  P : Prop
  h : Bx P → G → G
theorem pk_val {G P : Prop} {h : Bx P → G → G} (x : P) : (Pk.mk P h).P := x
namespace Lt
/-- the head's names alone: what is asked is in sight -/
theorem PySem.W.holds_open {Px : Prop} {r : OpenRow} {kx : Bx Px ∧ r.Holds} {q : Program} {loose : List Str} {Xt : Shared → Bool} {XP : (Str → Option Value) → Heap → Prop} {α : Type} {Yf : Shared → α} {Ya : World → α} {YP : World → Heap → Prop} {d : DefRec} {kwd : List (Str × Expr)} {N : Nat}
    (left : True) (hY : ∀ w s, Yf s = Ya w → YP w s.heap) (hYk : ∀ w h h', YP w h → (∀ b o, h.get? b = some o → h'.get? b = some o) → YP w h')
    (hX : ∀ s, Xt s = true → XP (s.heap.nsMap mainGlobals) s.heap) (hXk : ∀ mg h h', XP mg h → (∀ b o, h.get? b = some o → h'.get? b = some o) → XP mg h')
    (hdef : defOf q r.name = some (d, kwd)) (hp : r.prog.theDef r.name = some (d.params, d.body, d.scope)) (hk : kwWritten? d.params.kwonlyargs d.params.kw_defaults = some kwd) (hRf : ∀ s, Xt s = true → RecFacts r.records s.heap) (hwr : (!r.writes || r.records.isEmpty) = true)
    (k1 : True) (ok : True) (hb : (0 : Nat) = 0 ∧ (0 : Nat) = 0 ∧ (0 : Nat) = 0 ∧ (0 : Nat) = 0 ∧ (0 : Nat) = 0 ∧ True) (hw : r.toRowW.promised)
    (call : KeepIn kx (WalkC q loose XP YP r.toRowW d kwd fun f vs => PySem.call f vs)) : HeldBy kx r := kx.2
end Lt
end Mine
end
section
open PySem PySem.W PyProof.Rows PySem.Calls
set_option Elab.async false
namespace Mine
theorem enter_callC {M : Model} {A : Around} {s : Shared} {f : Value} {pos : List Value} {kw : List (Str × Value)} {c : ClaimW} {cl : Str → Option Addr} {mean : ExcName → Option Value} {args : List WData} {s₁ : Shared}
    (h : codeC M A (.call f ⟨pos, kw⟩) (GoodWG c cl mean args s₁) s) : wpC M A (PySem.call f pos kw) (fun v s' => GoodWG c cl mean args s₁ (.ok (.ret v)) s') (fun e s' => GoodWG c cl mean args s₁ (.error e) s') s :=
  wpC_call (codeC_mono h fun res s' g => by rcases g.1 with ⟨v, _, _, rfl, _⟩ | ⟨e, _, _, rfl, _⟩ <;> exact g)
end Mine
end
section
open PySem PySem.W PyProof.Rows PySem.Calls
set_option Elab.async false
set_option maxRecDepth 100000
namespace Mine
section
variable {M : Model} {A : Around} {E : Value → Shared → Prop} {s : Shared} {env : Env} {pos : Pos}
theorem wpC_keep {α : Type} {vs : List Value} {m : Sem α} {Q : α → Shared → Prop} (h : wpC M A m Q E s) : wpC M A (m.keep vs) Q E s :=
  fun Γ p hΓ k => by rw [Sem.wp_keep]; exact h Γ p hΓ k
theorem wpC_tail {t : Sem Value} {Q : Value → Shared → Prop} (h : wpC M A t Q E s) : wpC M A (t >>= fun r => holding [r] point >>= fun _ => pure r) Q E s :=
  wpC_bind (wpC_mono h (fun _ _ q => wpC_of (wpAny_bind (wpAny_holding (wpAny_point (wpAny_pure q))))) fun _ _ q => q)
theorem wpC_callWith {f : Value} {first : List Value} {Q : Value → Shared → Prop} {P : Heap → Prop} {args : List (Bool × Sem Value)} (hplain : args.any (·.1) = false)
    (hk : ∀ h, P h → ∃ k, (k = Keeper.frame ∨ k = Keeper.machine ∨ k = Keeper.boundFrame) ∧ Looks M h (keeperOf f) k)
    (h : wpAny M A (evalArgs f true args []) (fun a s₁ => P s₁.heap ∧ wpC M A (call f (first ++ a.pos) a.kw) Q E s₁) E s) : wpC M A (callWith pos f first args []) Q E s := by
  unfold callWith
  refine wpC_bind (wpC_of (wpAny_holding (wpAny_mono h (fun a s₁ h₁ => ?_) fun _ _ x => x)))
  refine wpC_bind (wpC_of (wpAny_standAt ?_))
  obtain ⟨hP, hc⟩ := h₁
  obtain ⟨k, hk', look⟩ := hk _ hP
  simp only [hplain, List.any_nil, Bool.or_false]
  refine wpC_bind (wpC_of (look.here ?_))
  have marked : ∀ mk, wpC M A (callMarked mk f (first ++ a.pos) a.kw) Q E s₁ := fun mk => by
    show wpC M A ((call f (first ++ a.pos) a.kw).keep [mk]) Q E s₁
    exact wpC_keep hc
  rcases hk' with rfl | rfl | rfl
  · dsimp only
    split
    · exact wpC_tail hc
    · exact wpC_tail (marked _)
  · exact wpC_tail hc
  · dsimp only
    split
    · exact wpC_tail hc
    · exact wpC_tail (marked _)
/-- a method of an own class, called with one argument -/
theorem wpC_meth1 {o e : Expr} {name : Str} {apos : Pos} {pl : Sem Bool} {Q : Value → Shared → Prop} {K : Frag} {f : Value}
    (he : eval (.Call (.Attribute o name apos) [e] [] pos) env = (do
      let ov ← eval o env
      standAt apos.atName
      let (f, first) ← holding [ov] (getMethod ov name pl)
      callWith pos f first [(false, eval e env)] []))
    (hk : keepIn K f = true)
    (h : wpAny M A (eval o env) (fun ov s₁ => wpAny M A (getMethod ov name pl) (fun fx s₂ => fx.1 = f ∧ wpAny M A (eval e env) (fun v s₃ => K.In s₃.heap ∧ wpC M A (call f (fx.2 ++ [v]) []) Q E s₃) E s₂) E s₁) E s) :
    wpC M A (eval (.Call (.Attribute o name apos) [e] [] pos) env) Q E s := by
  rw [he]
  refine wpC_bind (wpC_of (wpAny_mono h (fun ov s₁ h₁ => ?_) fun _ _ x => x))
  refine wpC_bind (wpC_of (wpAny_standAt ?_))
  refine wpC_bind (wpC_of (wpAny_holding (wpAny_mono h₁ (fun fx s₂ h₂ => ?_) fun _ _ x => x)))
  obtain ⟨e₁, h₂⟩ := h₂
  obtain ⟨g, first⟩ := fx
  dsimp only at e₁ h₂ ⊢
  subst e₁
  exact wpC_callWith rfl (keeps_K hk) (evalArgs_plain (spliced_cons (wpAny_mono h₂ (fun v s₃ h₃ => spliced_nil h₃) fun _ _ x => x)))
/-- a type called with one argument -/
theorem wpC_type1 {id : Str} {p : Pos} {e : Expr} {T : String} {Q : Value → Shared → Prop} (hb : starEach [e] env = [(false, eval e env)])
    (h : wpAny M A (eval (.Name id p) env) (fun f s₁ => f = .type T ∧ wpAny M A (eval e env) (fun v s₂ => wpC M A (call (.type T) [v]) Q E s₂) E s₁) E s) :
    wpC M A (eval (.Call (.Name id p) [e] [] pos) env) Q E s := by
  show wpC M A (do callWith pos (← eval (.Name id p) env) [] (backTo pos (starEach [e] env)) (backToKw pos (keywordEach [] env))) Q E s
  refine wpC_bind (wpC_of (wpAny_mono h (fun f s₁ h₁ => ?_) fun _ _ x => x))
  obtain ⟨rfl, h₁⟩ := h₁
  rw [hb]
  show wpC M A (callWith pos (.type T) [] [(false, eval e env)] []) Q E s₁
  unfold callWith
  refine wpC_bind (wpC_of (wpAny_holding (evalArgs_plain (spliced_cons (wpAny_mono h₁ (fun v s₃ h₃ => spliced_nil ?_) fun _ _ x => x)))))
  refine wpC_bind (wpC_of (wpAny_standAt ?_))
  refine wpC_bind (wpC_pure ?_)
  exact wpC_tail h₃
theorem wpC_Assign_Name {x pos' value pos} {Q : Flow → Shared → Prop}
    (h : wpC M A (eval value env) (fun v s₁ => wpAny M A (storeName env x v) (fun _ => Q .next) E s₁) E s)
    (hs : swapsWith value (some (.Name x pos')) pos.line env = pure false := by rfl) :
    wpC M A (exec (.Assign [.Name x pos'] value pos) env) Q E s := fun Γ p hΓ k => by
  simp only [exec_Assign_Name env x pos' value pos hs, Sem.wp_bind', Sem.wp_cmd_standAt, Sem.wp_bindName, Sem.wp_pure']
  exact Sem.wp_mono M Γ _ (fun v _ s₁ h₁ => h₁ Γ _ hΓ) (fun _ _ _ h' => h') _ _ (h Γ _ hΓ k)
theorem wpC_Expr_None {e pos} {Q : Flow → Shared → Prop} (h : wpC M A (eval e env) (fun v s' => v = .none ∧ Q .next s') E s)
    (hi : interactive env = false := by rfl) (hs : swapsWith e none pos.line env = pure false := by rfl) :
    wpC M A (exec (.Expr e pos) env) Q E s := by
  rw [exec_Expr env e pos hi hs]
  refine wpC_bind (wpC_of (wpAny_standAt ?_))
  refine wpC_bind (wpC_mono h (fun v s' h' => ?_) fun _ _ q => q)
  obtain ⟨rfl, h'⟩ := h'
  rw [dropValue_plain (v := .none) (by intro a e; cases e)]
  exact wpC_pure h'
end
end Mine
end
section
open PySem PySem.W PyProof.Rows PySem.Calls
set_option Elab.async false
set_option maxRecDepth 2000
namespace Mine
theorem ba_slot_getitem : Slot "bytearray" "__getitem__" "bytearray.__getitem__" :=
  .of (owner := "bytearray") (n := "__getitem__") (by rw [typeLookup_type, builtinLookup_eq_fast]; kernel_rfl) (by decide +kernel) (by decide +kernel) (by decide +kernel)
    (by first | exact .inl (by decide +kernel) | exact .inr (by decide +kernel)) (by rw [isSubtype_type]; kernel_rfl)
theorem ba_entry_getitem : entryFor table "bytearray.__getitem__" = some Builtin.«bytearray.__getitem__» := by first | exact entryFor_of_fast (by kernel_rfl) | exact entryFor_of_tree (by kernel_rfl)
theorem ba_args_getitem (x y : Value) : argsOk "bytearray.__getitem__" ⟨[x, y], []⟩ := by
  first | exact rfl | kernel_rfl | decide +kernel | exact trivial
theorem subscript_int {M : Model} {A : Around} {E : Value → Shared → Prop} {s : Shared} (i : Int) (t : Tok) {Q : Option Int → Shared → Prop} (hr : Builtin.Bytes.fitsIndex i = true) (h : Q (some i) s) :
    wpAny M A (Builtin.Bytes.subscript? (.int i t)) Q E s := by
  unfold Builtin.Bytes.subscript?
  refine wpAny_bind (wpAny_specialOf (typeIs_int s i t) F.slot_int_index.lookup ?_)
  show wpAny M A (if (!Builtin.Bytes.fitsIndex i) = true then _ else pure (some i)) _ E s
  rw [hr]
  exact wpAny_pure h
abbrev baObj (b : Array UInt8) : Obj := { cls := .type "bytearray", data := .bytearray b }
theorem payload_g {M : Model} {A : Around} {E : Value → Shared → Prop} {s : Shared} {a : Addr} {b : Array UInt8} {Q : Array UInt8 → Shared → Prop} (hS : s.heap.get? a = some (baObj b)) (h : Q b s) : wpAny M A (Builtin.Bytes.payload (.ref a)) Q E s := by
  unfold Builtin.Bytes.payload Builtin.Bytes.payload?
  refine wpAny_bind (wpAny_bind (wpAny_load hS ?_))
  exact wpAny_pure (wpAny_pure h)
theorem ba_item {M : Model} {A : Around} {E : Value → Shared → Prop} {s : Shared} {a : Addr} {b : Array UInt8} {i : Int} {t : Tok} {x : UInt8} {Q : Value → Shared → Prop} (hS : s.heap.get? a = some (baObj b)) (hf : Builtin.Bytes.fitsIndex i = true) (hx : (seqIndex? i b.size).bind (b[·]?) = some x) 
    (h : Q (.int x.toNat s.toks) { s with toks := s.toks + 1 }) : wpAny M A (Builtin.«bytearray.__getitem__» ⟨[.ref a, .int i t], []⟩) (fun fin s' => ∃ v, fin = .done (.ret v) ∧ Q v s') E s := by
  show wpAny M A (Builtin.Bytes.subscript? (.int i t) >>= fun r => _) _ E s
  refine wpAny_bind ?_
  refine subscript_int i t hf ?_
  refine wpAny_bind ?_
  refine payload_g hS ?_
  dsimp only
  rw [hx]
  exact wpAny_bind (wpAny_mkInt (wpAny_pure ⟨_, rfl, h⟩))
section
variable {prog : Program} {w : World} {A : Around} {E : Value → Shared → Prop} {s : Shared} {a : Addr} {b : Array UInt8}
theorem getItem_ba {i : Int} {t : Tok} {x : UInt8} {Q : Value → Shared → Prop} (hS : s.heap.get? a = some (baObj b)) (hf : Builtin.Bytes.fitsIndex i = true) (hx : (seqIndex? i b.size).bind (b[·]?) = some x)
    (h : Q (.int x.toNat s.toks) { s with toks := s.toks + 1 }) : wpAny (model prog w) A (getItem (.ref a) (.int i t)) Q E s :=
  wpAny_getItem_slot (ba_typeIs hS) (by decide) ba_slot_getitem (wpAny_call_entry ba_slot_getitem (ba_typeIs hS) ba_entry_getitem (ba_item hS hf hx h) (ba_args_getitem _ _))
end
end Mine
end
section
open PySem PySem.W PyProof.Rows PySem.Calls
set_option Elab.async false
namespace Mine
def loadAt {α : Type} : Sem α → Option Addr
  | .load a _ _ => some a
  | _ => none
def afterLoad {α : Type} (o : Obj) : Sem α → Option α
  | .load _ _ k => match k o with
    | .pure x => some x
    | _ => none
  | _ => none
theorem wpAny_afterLoad {α : Type} {M : Model} {A : Around} {E : Value → Shared → Prop} {s : Shared} {t : Sem α} {Q : α → Shared → Prop} {T : Addr} {o : Obj} {x : α} (h1 : loadAt t = some T) (h2 : afterLoad o t = some x) (ho : s.heap.get? T = some o) (hq : Q x s) : wpAny M A t Q E s := by
  intro Γ p _
  cases t <;> simp only [loadAt, reduceCtorEq] at h1
  rename_i a part k
  cases h1
  refine ⟨o, ho, ?_⟩
  simp only [afterLoad] at h2
  split at h2
  · rename_i y e
    cases h2
    rw [e]
    exact hq
  · cases h2
theorem binds_load {K : Frag} {s : Shared} {fd : FuncData} {args : Args} {binds : List (Str × Value)} {T : Addr} {o : Obj} (X : K.In s.heap) (_hd : fd.defaults = .ref T) (ho : K.lookup T = some o)
    (h1 : loadAt (bindArgs fd args) = some T) (h2 : afterLoad o (bindArgs fd args) = some binds) : BindsTo s fd args binds :=
  fun _ _ _ _ hq => wpAny_afterLoad h1 h2 (X _ _ ho) hq
end Mine
end
section
open PySem PySem.W PyProof.Rows PySem.Calls
set_option Elab.async false
namespace Mine
section
variable {prog : Program} {w : World} {A : Around} {E : Value → Shared → Prop} {s : Shared} {b c : Array UInt8} {t u v : Tok} {ks ls : List Int} {Q : Value → Shared → Prop}
end
end Mine
end
section
open PySem PySem.W PyProof.Rows PySem.Calls
set_option Elab.async false
namespace Mine
section
variable {prog : Program} {w : World} {A : Around} {E : Value → Shared → Prop} {s : Shared} {h₀ : Heap} {L : Addr} {m : Str → Option Value} {news : List (Addr × Obj)}
theorem call_bytearray_K {b : Array UInt8} {t : Tok} {Q : Value → Shared → Prop} (F : Fr h₀ L s.heap m) (N : News h₀ L s.heap news) (hz : b.size ≤ sizeLine)
    (h : ∀ x h', Fr h₀ L h' m → News h₀ L h' ((x, baObj b) :: news) → (∀ p ∈ news, p.1 < x) → Q (.ref x) { s with heap := h' }) :
    wpC (model prog w) A (call (.type "bytearray") [.bytes b t]) Q E s := by
  refine call_bytearray hz fun h' hg hs => ?_
  have F₁ := F.push ({ cls := .type "bytearray", data := .bytearray #[] } : Obj)
  have N₁ := News.push F N ({ cls := .type "bytearray", data := .bytearray #[] } : Obj)
  have q := N₁ _ (List.Mem.head _)
  have lt : ∀ p ∈ news, p.1 < s.heap.objs.size := fun p hp => Heap.lt_size (N p hp).1
  refine h _ h' (F₁.change hs q.2.1 q.2.2) (fun p hp => ?_) lt
  rcases List.mem_cons.mp hp with rfl | hp
  · exact ⟨hg, q.2⟩
  · have r := N₁ p (List.mem_cons_of_mem _ hp)
    exact ⟨(hs.2 p.1 (Nat.ne_of_lt (lt p hp))).trans r.1, r.2⟩
theorem sub_ba {value slice : PySem.Expr} {a : Addr} {b : Array UInt8} {i n : Int} {t : Tok} {x : UInt8} {Q : Value → Shared → Prop} (N : News h₀ L s.heap news) (hm : (a, baObj b) ∈ news) (hf : Builtin.Bytes.fitsIndex i = true) (hx : (seqIndex? i b.size).bind (b[·]?) = some x) (hn : (x.toNat : Int) = n)
    (h : Q (.int n s.toks) { s with toks := s.toks + 1 })
    (hs : subscripted slice false (.ref a) (.int i t) = operate [.ref a, .int i t] (getItem (.ref a) (.int i t)) := by with_unfolding_all rfl) (ht : ∀ r, letTemporaryGo value (.ref a) r = pure () := by intro _; with_unfolding_all rfl) :
    wpAny (model prog w) A (subscriptTail value slice (.ref a) (.int i t)) Q E s :=
  subscriptTail_builtin (ba_typeIs (News.get N hm)) ba_slot_getitem.lookup (getItem_ba (News.get N hm) hf hx (by rw [hn]; exact h)) hs ht
end
end Mine
namespace Mine
theorem gen_toksC {α : Type} {M : Model} {A : Around} {t : Sem α} {Q : α → Shared → Prop} {E : Value → Shared → Prop} {h : Heap} {g : Array GenState} {d : Drawn} {X : Nat} {o : OsState} (k : ∀ tk, wpC M A t Q E ⟨h, g, d, tk, o⟩) : wpC M A t Q E ⟨h, g, d, X, o⟩ := k X
end Mine
end
section
open PySem PySem.W PyProof.Rows PySem.Calls
set_option Elab.async false
set_option maxRecDepth 100000
namespace Mine
/-- what every code's judgement passes on, holds at each end -/
theorem post_of_codes {prog : Program} {w : World} {R₁ R₂ : Result → Shared → Prop} (h : ∀ (M : Model) (A : Around) (cd : Code) (s : Shared), codeAny M A cd R₁ s → codeAny M A cd R₂ s) : ∀ r s, R₁ r s → R₂ r s := by
  intro r s h1
  have key : ∀ t : Sem Fin, (∀ M Γ (R : Result → Shared → Prop) p, R r s → Sem.wp M Γ t (Sem.finPost M Γ R) (fun e _ s' => R (.error e) s') p s) →
      (∀ M Γ (R : Result → Shared → Prop) p, Sem.wp M Γ t (Sem.finPost M Γ R) (fun e _ s' => R (.error e) s') p s → R r s) → R₂ r s := fun t a b => by
    have c := h ⟨fun _ => t, prog, w⟩ callerA (.builtin "claim.caller" {}) s fun Γ p _ _ => by rw [wpCode_iff_wp]; exact a _ _ _ _ h1
    have d := c ((⟨.builtin "claim.caller" {}, none, none, [], none⟩ : Ctx).enter (.builtin "claim.caller" {}) none default) default rfl (caller_in.enter _ none default (by intro x; cases x))
    rw [wpCode_iff_wp] at d
    exact b _ _ _ _ d
  cases r with
  | ok f => exact key (pure (.done f)) (fun _ _ _ _ x => x) (fun _ _ _ _ x => x)
  | error e => exact key (Sem.raise e) (fun _ _ _ _ x => x) (fun _ _ _ _ x => x)
theorem kn_postC {prog : Program} {w : World} {A : Around} {cd : Code} {s s₁ : Shared} {cw : ClaimW} {cl : Str → Option Addr} {mean : ExcName → Option Value} {args : List WData} {tabs : List (Addr × Addr)} (hT : TabsAt tabs s₁.heap) (hr : ∀ a x, cw.raises a x = false)
    (h : codeC (model prog w) A cd (fun r s' => GoodW cw cl mean args { s₁ with heap := ghostOf s₁.heap tabs } r s' ∧ GrownAll tabs s'.heap) s) : codeC (model prog w) A cd (GoodWG cw cl mean args s₁) s :=
  codeC_mono h (post_of_codes (prog := prog) (w := w) fun _ _ _ _ x => kn_post hT hr x)
theorem call_cellsC {prog : Program} {w : World} {A : Around} {R : Result → Shared → Prop} {s : Shared} {name : Str} {params : Arguments} {body : List Stmt} {scope : Scope}
    {pm cd doc : Value} {a : Addr} {o : Obj} {args : List Value} {binds : List (Str × Value)}
    (hroom : A.depth < recursionLimit) (ho : s.heap.get? a = some o) (hdata : o.data = .func (Calls.docDef name params body scope pm cd doc)) (hlim : s.heap.NoLimit) (hcd : s.heap.CodeRec cd name)
    (hbind : bindArgs (Calls.docDef name params body scope pm cd doc) ⟨args, []⟩ = pure binds)
    (hkind : ∀ x ∈ binds, scope.names.lookup x.1 = some .local ∨ (scope.names.lookup x.1 = some .cell ∧ ((cellsFrom (s.heap.objs.size + 1) scope.names []).lookup x.1).isSome = true))
    (hnd : ((cellsFrom 0 scope.names []).map (·.1)).Nodup)
    (h : ∀ h₁ tk cells, Fr s.heap s.heap.objs.size h₁ (bindL (envOfC name scope s.heap.objs.size a cd).kindOf binds fun _ => none) → News s.heap s.heap.objs.size h₁ cells →
      CellsAre (bindC (envOfC name scope s.heap.objs.size a cd).kindOf binds fun _ => none) (cellsFrom (s.heap.objs.size + 1) scope.names []) cells →
      wpC (model prog w) (A.deeper (envOfC name scope s.heap.objs.size a cd)) (execs body (envOfC name scope s.heap.objs.size a cd))
        (fun f s' => R (.ok (.ret (match f with | .ret v => v | _ => .none))) s')
        (fun e s' => wpC (model prog w) (A.deeper (envOfC name scope s.heap.objs.size a cd)) (leaving (envOfC name scope s.heap.objs.size a cd) e)
          (fun _ s'' => R (.error e) s'') (fun e' s'' => R (.error e') s'') s')
        { s with heap := h₁, toks := tk })
    (hco : scope.isCoroutine = false := by rfl) (hgen : scope.isGenerator = false := by rfl) (hk : scope.kind = .function := by rfl) :
    codeC (model prog w) A (.call (.ref a) ⟨args, []⟩) R s := by
  refine codeC_call_function (fd := Calls.docDef name params body scope pm cd doc) hroom ho hdata hco hgen rfl hcd ?_
  rw [hbind]
  refine wpAny_pure ?_
  refine wpAny_newFunctionEnv_cells hk hkind fun env he s' x => ?_
  subst he
  refine ⟨hlim.keeps x.toInCall.keep, codeC_func ?_⟩
  obtain ⟨h₁, tk, e, _⟩ := x.done
  subst e
  have F : Fr s.heap s.heap.objs.size h₁ (bindL (envOfC name scope s.heap.objs.size a cd).kindOf binds fun _ => none) := ⟨x.toInCall.ns, x.toInCall.keep, x.toInCall.fresh⟩
  have X : Cl s.heap.objs.size (cellsFrom (s.heap.objs.size + 1) scope.names []) h₁ (bindC (envOfC name scope s.heap.objs.size a cd).kindOf binds fun _ => none) := ⟨x.cell, x.apart, x.above⟩
  obtain ⟨cells, N, Y⟩ := Cl.news (h₀ := s.heap) (Nat.le_refl _) fun n c hm => ⟨X.cell n c (lookup_of_mem_nodup (cellsFrom_names scope.names 0 (s.heap.objs.size + 1) [] [] rfl ▸ hnd) hm), X.above n c hm⟩
  exact h h₁ tk cells F N Y
end Mine
end
section
open PySem PySem.W PyProof.Rows PySem.Calls
set_option Elab.async false
namespace Mine
structure Box (P : Prop) : Prop where
  get : P
theorem later {P G : Prop} (wk9 : Box P → G) (rs9 : Box P) : G := wk9 rs9
def JV (g : Heap) (L : Addr) (x : Str) (m₀ : Str → Option Value) (news : List (Addr × Obj)) (V : Option Value → Prop) (s : Shared) (f : Flow) (s' : Shared) : Prop :=
  f = .next ∧ ∃ v h' tk, s' = { s with heap := h', toks := tk } ∧ V v ∧ Fr g L h' (fun y => if y = x then v else m₀ y) ∧ News g L h' news
theorem join_new {M : Model} {A : Around} {st : Stmt} {rest : List Stmt} {env : Env} {Q : Flow → Shared → Prop} {E : Value → Shared → Prop} {s : Shared} {g : Heap} {L : Addr} {m₀ : Str → Option Value} {news : List (Addr × Obj)} (x : Str) (V : Option Value → Prop)
    (_F : Fr g L s.heap m₀) (_N : News g L s.heap news) (h1 : wpAny M A (exec st env) (JV g L x m₀ news V s) (fun _ _ => False) s)
    (h2 : ∀ v h' tk, V v → Fr g L h' (fun y => if y = x then v else m₀ y) → News g L h' news → wpC M A (execs rest env) Q E { s with heap := h', toks := tk }) : wpC M A (execs (st :: rest) env) Q E s :=
  wpC_execs_any (wpAny_mono h1 (fun f s' ⟨hf, v, h', tk, hs, hv, F', N'⟩ => by subst hf; subst hs; exact h2 v h' tk hv F' N') fun _ _ e => e.elim)
theorem jv_set {g h' : Heap} {L : Addr} {x : Str} {m₀ : Str → Option Value} {news news' : List (Addr × Obj)} {V : Option Value → Prop} {s : Shared} {tk : Nat} {v : Value} (F : Fr g L h' (fun y => if y = x then some v else m₀ y)) (N : News g L h' news') (hs : ∀ p ∈ news, p ∈ news') (hv : V (some v)) :
    JV g L x m₀ news V s .next { s with heap := h', toks := tk } := ⟨rfl, some v, h', tk, rfl, hv, F, news_drop N hs⟩
abbrev AnInt (v : Option Value) : Prop := ∃ n t, v = some (.int n t)
end Mine
namespace Mine
theorem fb_time (a b c : Int) : TimeOk (a.fmod 24) (b.fmod 60) (c.fmod 60) := by
  rw [fm _ (by decide : (0 : Int) ≤ 24), fm _ (by decide : (0 : Int) ≤ 60), fm _ (by decide : (0 : Int) ≤ 60)]
  unfold TimeOk
  omega
end Mine
namespace Mine
end Mine
namespace Mine
end Mine
namespace Mine
theorem item_lit {prog : Program} {w : World} {A : Around} {E : Value → Shared → Prop} {s : Shared} {h₀ : Heap} {L : Addr} {news : List (Addr × Obj)} {value slice : PySem.Expr} {l : Addr} {items : Array Value} {n : Nat} {i : Int} {t : Tok} {x : Value} {Q : Value → Shared → Prop} (N : News h₀ L s.heap news) (hm : (l, W.listOf items n) ∈ news) (h0 : 0 ≤ i) (hf : i < 2 ^ 63) (hx : (items.toList.drop i.toNat).head? = some x) (h : Q x s)
    (hs : subscripted slice false (.ref l) (.int i t) = operate [.ref l, .int i t] (getItem (.ref l) (.int i t)) := by with_unfolding_all rfl) (hg : ∀ r, letTemporaryGo value (.ref l) r = pure () := by intro _; with_unfolding_all rfl) :
    wpAny (model prog w) A (subscriptTail value slice (.ref l) (.int i t)) Q E s :=
  have hl : s.heap.IsList l items := ⟨_, News.get N hm, rfl, n, rfl⟩
  subscriptTail_builtin hl.typeIs slot_list_getitem.lookup (wpAny_getItem_list hl h0 hf (by rw [List.head?_drop] at hx; simpa using hx) h) hs hg
end Mine
namespace Mine
end Mine
namespace Mine
theorem dicts_nil {A : Around} {base h : Heap} (_K : Below A base [] h) : KtsDicts (List.filterMap (fun x => x.frame) ([] : List Env)) h := fun _ hb => nomatch hb
end Mine
namespace Mine
theorem bind_of_lookup {K : Frag} {f : Addr} {oc₀ : Value} {od₀ : Option Addr} {fd₀ : FuncData} {osl₀ : Array (Option Value)} {P : FuncData → Prop} (ho : K.lookup f = some ⟨oc₀, od₀, .func fd₀, osl₀⟩) (h : P fd₀) :
    ∀ (oc : Value) (od : Option Addr) (fd : FuncData) (osl : Array (Option Value)), K.lookup f = some ⟨oc, od, .func fd, osl⟩ → P fd := by
  intro oc od fd osl e
  rw [ho] at e
  cases e
  exact h
end Mine
namespace Mine
theorem ints12 {u1 u2 u3 u4 u5 u6 u7 u8 u9 u10 u11 u12 : Tok} : IntsAre [.int 31 u1, .int 28 u2, .int 31 u3, .int 30 u4, .int 31 u5, .int 30 u6, .int 31 u7, .int 31 u8, .int 30 u9, .int 31 u10, .int 30 u11, .int 31 u12] [31, 28, 31, 30, 31, 30, 31, 31, 30, 31, 30, 31] := by repeat constructor
/-- the table of the months' days, read at a month -/
theorem item_tab {prog : Program} {w : World} {A : Around} {E : Value → Shared → Prop} {s : Shared} {h₀ : Heap} {L : Addr} {news : List (Addr × Obj)} {value slice : PySem.Expr} {l : Addr} {n : Nat} {mo : Int} {t u1 u2 u3 u4 u5 u6 u7 u8 u9 u10 u11 u12 : Tok} {Q : Value → Shared → Prop} (N : News h₀ L s.heap news)
    (hm : (l, W.listOf #[.int 31 u1, .int 28 u2, .int 31 u3, .int 30 u4, .int 31 u5, .int 30 u6, .int 31 u7, .int 31 u8, .int 30 u9, .int 31 u10, .int 30 u11, .int 31 u12] n) ∈ news) (h1 : 1 ≤ mo) (h2 : mo ≤ 12) (h : ∀ u, Q (.int (tab mo) u) s)
    (hs : subscripted slice false (.ref l) (.int (mo - 1) t) = operate [.ref l, .int (mo - 1) t] (getItem (.ref l) (.int (mo - 1) t)) := by with_unfolding_all rfl) :
    wpAny (model prog w) A (subscriptTail value slice (.ref l) (.int (mo - 1) t)) Q E s :=
  item_list_intsR (show s.heap.IsList l (List.toArray _) from ⟨_, News.get N hm, rfl, n, rfl⟩) ints12 (by omega) (by show mo - 1 < (12 : Int); omega) (by omega) h hs
end Mine
end
section
open PySem PySem.W PyProof.Rows PySem.Calls PySem.Spec
set_option Elab.async false
set_option maxRecDepth 100000
namespace Mine
def TupAt (ax : Addr) (its : Array Value) (news : List (Addr × Obj)) : Prop := False ∨ ∃ o, (ax, o) ∈ news ∧ o.cls = .type "tuple" ∧ ∃ n, o.data = .seq its n
theorem TupAt.tuple {h₀ h : Heap} {L ax : Addr} {its : Array Value} {news : List (Addr × Obj)} (x : TupAt ax its news) (N : News h₀ L h news) : h.IsTuple ax its := by
  rcases x with x | ⟨o, hm, r⟩
  · exact x.elim
  · exact ⟨o, (N _ hm).1, r⟩
theorem tuple_st {h₀ : Heap} {L ax I : Addr} {its : Array Value} : ∀ i (h h' : Heap) (o : Obj) (nw : List (Addr × Obj)), (h.IsTupleIter I ax i ∧ h.IsTuple ax its) → h.get? I = some o → h'.get? I = some o → (∀ b o, h₀.get? b = some o → h'.get? b = some o) → News h₀ L h' nw → TupAt ax its nw → (h'.IsTupleIter I ax i ∧ h'.IsTuple ax its) :=
  fun i h h' o nw st e e' k N S => ⟨by obtain ⟨o', q, r⟩ := st.1; rw [e] at q; cases q; exact ⟨o, e', r⟩, S.tuple N⟩
def TupSrc (prog : Program) (w : World) (A : Around) (L : Addr) (env : Env) (elt : Expr) (x : Str) (scope : Scope) (cl : List (Str × Addr)) (y : Str) (Q : Flow → Shared → Prop) (xv : Value) (s₁ : Shared) : Prop :=
  ∃ h₀ m ax its news, xv = .ref ax ∧ A.handled = none ∧ Fr h₀ L s₁.heap m ∧ News h₀ L s₁.heap news ∧ TupAt ax its news ∧ its.size ≤ sizeLine ∧
    ∀ s₂ : Shared, (∃ h, s₂ = { s₁ with heap := h }) → LCg.CompRest prog w A h₀ L m env elt x scope cl s₂ (TupAt ax its) (fun i v => its[i]? = some v) (LCg.FinA h₀ L m s₂ y Q) its.size 0 [] news
section
variable {prog : Program} {w : World} {A : Around} {E : Value → Shared → Prop} {s : Shared} {h₀ : Heap} {L : Addr} {m : Str → Option Value} {env : Env}
theorem TupSrc.ledger {elt : Expr} {x y : Str} {scope : Scope} {cl : List (Str × Addr)} {Q : Flow → Shared → Prop} {ax : Addr} {its : Array Value} {k : Nat} {news : List (Addr × Obj)} {s₁ : Shared}
    (hh : A.handled = none) (F : Fr h₀ L s₁.heap m) (N : News h₀ L s₁.heap news) (hm : (ax, ({ cls := .type "tuple", data := .seq its k } : Obj)) ∈ news) (hsz : its.size ≤ sizeLine)
    (h : ∀ g, LCg.CompRest prog w A h₀ L m env elt x scope cl { s₁ with heap := g } (TupAt ax its) (fun i v => its[i]? = some v) (LCg.FinA h₀ L m { s₁ with heap := g } y Q) its.size 0 [] news) :
    TupSrc prog w A L env elt x scope cl y Q (.ref ax) s₁ := ⟨h₀, m, ax, its, news, rfl, hh, F, N, .inr ⟨_, hm, rfl, _, rfl⟩, hsz, fun _ ⟨g, e⟩ => e ▸ h g⟩
/-- a comprehension over a tuple of the ledger, stored under a name -/
theorem assign_comp_tuple {elt iter : Expr} {x y : Str} {px py : Pos} {scope : Scope} {cl : List (Str × Addr)} {pos spos : Pos} {Q : Flow → Shared → Prop} (hLe : env.locals = L)
    (hsw : swapsWith (.ListComp elt [⟨.Name x px, iter, [], 0⟩] scope pos) (some (.Name y py)) spos.line env = pure true)
    (hclos : closureFor scope env = pure cl) (hcell : ∀ z ∈ scope.names, z.2 ≠ .cell) (hkind : scope.kind = .function)
    (hnames : ∀ z ∈ scope.names, z.2 = .local → scope.names.lookup z.1 = some .local) (hx : scope.names.lookup x = some .local)
    (hy : env.kindOf y = some .local) (hp : (env.scope.kind == .class || (env.scope.kind == .module && env.locals != env.globals)) = false)
    (h : wpAny (model prog w) A (eval iter env) (TupSrc prog w A L env elt x scope cl y Q) E s)
    (hs : ∀ x, foldedSetIterable iter env x = pure x := by intro _; rfl) :
    wpAny (model prog w) A (exec (.Assign [.Name y py] (.ListComp elt [⟨.Name x px, iter, [], 0⟩] scope pos) spos) env) Q E s := by
  subst hLe
  rw [exec_Assign_Name_used _ _ _ _ hsw]
  refine wpAny_bind (wpAny_standAt (wpAny_bind ?_))
  show wpAny _ A (do let _ ← comprehension (.ListComp elt [⟨.Name x px, iter, [], 0⟩] scope pos) scope env _ (newList []) false (eval iter env) (some (assign (.Name y py) env))) _ _ s
  refine wpAny_bind (wpAny_mono (wpAny_comprehension_free (use := some (assign (.Name y py) env)) (Q := fun _ s' => Q .next s') rfl hs hclos hkind hnames
    (wpAny_mono h (fun xv s₁ h₁ => ?_) fun _ _ e => e)) (fun _ s' hq => wpAny_pure (wpAny_pure hq)) fun _ _ e => e)
  obtain ⟨h₀, m, ax, its, news, rfl, hh, F, N, S, hsz, R⟩ := h₁
  have hl := S.tuple N
  have hlt : ax < s₁.heap.objs.size := by obtain ⟨_, e, _⟩ := hl; exact Heap.lt_size e
  refine wpAny_pyIter_tuple hl ?_
  have up : ∀ b o, s₁.heap.get? b = some o → (s₁.heap.push { cls := .type "tuple_iterator", data := .fields #[.ref ax, .int 0 0] }).get? b = some o := fun b o e => Heap.get?_push_of_some _ e
  refine LCg.block_U (Walks.tuple hh s₁.heap.objs.size ax (Nat.ne_of_lt hlt) its) hsz (fun i h st => by obtain ⟨o, e, _⟩ := st.1; exact ⟨o, e⟩) tuple_st hcell hkind hx ⟨⟨_, Heap.get?_push_size _ rfl, rfl, rfl⟩, hl.at fun o e => Heap.get?_push_of_some _ e⟩ (fun b hb => ?_)
    (F.keeps up) (N.grown up) (Nat.ne_of_lt F.ns.lt) (next_is_new F) (fun p hp => Nat.ne_of_lt (Heap.lt_size (N p hp).1)) S (R _ ⟨_, rfl⟩) ?_
  · show b < (s₁.heap.push _).objs.size
    rw [Heap.size_push]
    rcases List.mem_cons.mp hb with rfl | hb
    · exact Nat.lt_succ_self _
    · rw [List.mem_singleton.mp hb]; exact Nat.lt_succ_of_lt hlt
  · intro D C h' tk m' ys news' F' N' o1 hn hC₀ hD₀ hCL hDL hCD offC fin
    show wpAny _ A (assign (.Name y py) env (.ref D)) _ _ _
    refine wpAny_assign_Name (wpAny_storeName_local hy F'.ns (fun h₂ hn₂ hs₂ => ?_) hp)
    have hL₀ : h₀.get? env.locals = none := Heap.get?_none_of_le F'.above
    have F₂ : Fr h₀ env.locals h₂ (fun z => if z = y then some (.ref D) else m z) := ⟨hn₂, fun b o e => hs₂.extBut b o (fun q => by rw [q, hL₀] at e; cases e) (F'.keep b o e), F'.above⟩
    refine ⟨m', hn.sameBut hs₂ hCL, fun h'' hs'' => fin D h'' _ (F₂.change hs'' hCL hC₀) (fun p hp => ?_) o1⟩
    have z : h₂.get? p.1 = some p.2 := hs₂.extBut _ _ (N' p hp).2.1 (N' p hp).1
    refine ⟨hs''.extBut _ _ ?_ z, (N' p hp).2⟩
    rcases List.mem_cons.mp hp with rfl | hp
    · exact Ne.symm hCD
    · exact offC p hp
end
theorem comp_end1 {h₀ : Heap} {L I C D : Addr} {m : Str → Option Value} {s₁ : Shared} {oI oC oD : Obj} {S : List (Addr × Obj) → Prop} {rest : Value → List (Addr × Obj) → Prop} {y : Value} {h' : Heap} {tk : Nat} {p : Addr × Obj} {nw : List (Addr × Obj)}
    (F : Fr h₀ L h' m) (N : News h₀ L h' (p :: (I, oI) :: (C, oC) :: (D, oD) :: nw)) (o1 : p.1 ≠ I) (o2 : p.1 ≠ C) (o3 : p.1 ≠ D) (off : LCg.Off3 I C D nw) (hS : S (p :: nw)) (r : rest y (p :: nw)) :
    LCg.CompEnd h₀ L m s₁ I oI C oC D oD S rest y { s₁ with heap := h', toks := tk } :=
  LCg.CompEnd.intro F N (p :: nw) (fun q hq => by
    rcases List.mem_cons.mp hq with h | hq
    · exact List.mem_cons_of_mem _ (h ▸ List.mem_cons_self)
    rcases List.mem_cons.mp hq with h | hq
    · exact List.mem_cons_of_mem _ (List.mem_cons_of_mem _ (h ▸ List.mem_cons_self))
    rcases List.mem_cons.mp hq with h | hq
    · exact List.mem_cons_of_mem _ (List.mem_cons_of_mem _ (List.mem_cons_of_mem _ (h ▸ List.mem_cons_self)))
    rcases List.mem_cons.mp hq with h | hq
    · exact h ▸ List.mem_cons_self
    · exact List.mem_cons_of_mem _ (List.mem_cons_of_mem _ (List.mem_cons_of_mem _ (List.mem_cons_of_mem _ hq)))) ⟨⟨o1, o2, o3⟩, off⟩ hS r
end Mine
end
section
open PySem PySem.W PyProof.Rows
set_option Elab.async false
namespace Mine
/-- the words of a list are forgotten but for their bounds; the tuple behind them is dropped -/
theorem words5 {g h : Heap} {L D : Addr} {a0 a1 a2 a3 a4 : Int} {t0 t1 t2 t3 t4 : Tok} {T : Addr × Obj} {rest : List (Addr × Obj)}
    (N : News g L h ((D, LCg.lst [.int (a0.fmod 65536) t0, .int (a1.fmod 65536) t1, .int (a2.fmod 65536) t2, .int (a3.fmod 65536) t3, .int (a4.fmod 65536) t4]) :: T :: rest)) :
    ∃ (w0 w1 w2 w3 w4 : Int) (u0 u1 u2 u3 u4 : Tok), 0 ≤ w0 ∧ w0 < 65536 ∧ 0 ≤ w1 ∧ w1 < 65536 ∧ 0 ≤ w2 ∧ w2 < 65536 ∧ 0 ≤ w3 ∧ w3 < 65536 ∧ 0 ≤ w4 ∧ w4 < 65536 ∧
      News g L h ((D, LCg.lst [.int w0 u0, .int w1 u1, .int w2 u2, .int w3 u3, .int w4 u4]) :: rest) :=
  ⟨_, _, _, _, _, _, _, _, _, _, fm_lo _, fm_hi _, fm_lo _, fm_hi _, fm_lo _, fm_hi _, fm_lo _, fm_hi _, fm_lo _, fm_hi _, fun p hp => N p (by
    rcases List.mem_cons.mp hp with e | e
    · exact List.mem_cons.mpr (.inl e)
    · exact List.mem_cons_of_mem _ (List.mem_cons_of_mem _ e))⟩
/-- six ints of a list are forgotten -/
theorem forget6 {g h : Heap} {L D : Addr} {a0 a1 a2 a3 a4 a5 : Int} {t0 t1 t2 t3 t4 t5 : Tok} {n : Nat} {rest : List (Addr × Obj)}
    (N : News g L h ((D, W.listOf #[.int a0 t0, .int a1 t1, .int a2 t2, .int a3 t3, .int a4 t4, .int a5 t5] n) :: rest)) :
    ∃ (w0 w1 w2 w3 w4 w5 : Int) (u0 u1 u2 u3 u4 u5 : Tok), News g L h ((D, W.listOf #[.int w0 u0, .int w1 u1, .int w2 u2, .int w3 u3, .int w4 u4, .int w5 u5] n) :: rest) :=
  ⟨_, _, _, _, _, _, _, _, _, _, _, _, N⟩
theorem sealed {g h : Heap} {L : Addr} {a : Addr × Obj} {l : List (Addr × Obj)} (N : News g L h (a :: l)) : ∃ led, News g L h led ∧ ∀ p ∈ a :: l, p ∈ led := ⟨_, N, fun _ q => q⟩
theorem sub_cons {a : Addr × Obj} {l led : List (Addr × Obj)} (h : ∀ p ∈ a :: l, p ∈ led) : a ∈ led ∧ ∀ p ∈ l, p ∈ led := ⟨h _ (List.Mem.head _), fun p hp => h p (List.Mem.tail _ hp)⟩
end Mine
end
section
open PySem PySem.W PyProof.Rows PySem.Calls
set_option Elab.async false
set_option maxRecDepth 100000
namespace Mine
theorem code_defTC {prog : Program} {w : World} {A₀ A : Around} {s : Shared} {base h₀ g₀ : Heap} {outer : List Env} {L : Addr} {m : Str → Option Value} {env : Env} {news : List (Addr × Obj)} {K : Frag} {p : Program} {loose : List Str} {mean : ExcName → Option Value} {mg mb : Str → Option Value}
    {R : Result → Shared → Prop} {name qual : Str} {params : Arguments} {body : List Stmt} {scope : Scope} {dV kV doc pm cdv ct oc : Value} {an od : Option Addr} {osl : Array (Option Value)} {f : Addr} {args : Args} {binds : List (Str × Value)}
    (B : Below A₀ base outer h₀) (F : Fr h₀ L s.heap m) (X₀ : K.In h₀) (N : News h₀ L s.heap news) (T : Top p loose mean mg mb h₀) (XB : K.In base) (TB : Top p loose mean mg mb base) (D : KtsDicts (outer.filterMap (·.frame)) h₀)
    (T0 : KtsTurn (outer.filterMap (·.frame)) g₀ h₀) (hA : A.frames = some (env :: outer)) (hf : env.frame = some L) (hke : env.scope.kind = .function)
    (ho : K.lookup f = some ⟨oc, od, .func (fnOf name qual params body scope dV kV doc pm an cdv ct), osl⟩) (hcd : codeIn K cdv qual = true) (hroom : A.depth < recursionLimit)
    (hbind : BindsTo s (fnOf name qual params body scope dV kV doc pm an cdv ct) args binds)
    (hkind : (binds.all fun y => scope.names.lookup y.1 == some .local || scope.names.lookup y.1 == some .cell) = true)
    (hnd : ((cellsFrom 0 scope.names []).map (·.1)).Nodup)
    (h : ∀ g L' h₁ tk cells, Fr h₀ L g m → Fr g L' h₁ (bindL (envOfC qual scope L' f cdv).kindOf binds fun _ => none) → News g L' h₁ (cells ++ news) →
      CellsAre (bindC (envOfC qual scope L' f cdv).kindOf binds fun _ => none) (cellsFrom (L' + 1) scope.names []) cells → (∀ p ∈ news, p.1 < L') → Below A base (env :: outer) g → K.In g → Top p loose mean mg mb g → KtsDicts ((env :: outer).filterMap (·.frame)) g →
      wpC (model prog w) (A.deeper (envOfC qual scope L' f cdv)) (execs body (envOfC qual scope L' f cdv))
        (fun fl s' => LeaveS ((env :: outer).filterMap (·.frame)) A₀ base outer K p loose mean mg mb g₀ h₀ L m g R (match fl with | .ret v => v | _ => .none) s')
        (fun e s' => wpC (model prog w) (A.deeper (envOfC qual scope L' f cdv)) (leaving (envOfC qual scope L' f cdv) e) (fun _ s'' => R (.error e) s'') (fun e' s'' => R (.error e') s'') s')
        { s with heap := h₁, toks := tk })
    (hco : scope.isCoroutine = false) (hgen : scope.isGenerator = false) (hk : scope.kind = .function) : codeC (model prog w) A (.call (.ref f) args) R s := by
  have X := X₀.keeps F.keep
  obtain ⟨FG, BG, SG, dG, back⟩ := groundS (R := R) B F N XB TB D T0 hA hf hke
  refine codeC_call_function (fd := fnOf name qual params body scope dV kV doc pm an cdv ct) (body := body) hroom (X _ _ ho) rfl hco hgen rfl (codeRec_of X hcd) (hbind _ _ _ _ ?_)
  refine wpAny_newFunctionEnv_cells hk (kindsX hkind _) fun env' he s' x => ?_
  subst he
  refine ⟨(T.nolimit.keeps F.keep).keeps x.toInCall.keep, codeC_func ?_⟩
  obtain ⟨h₁, tk, rfl, _⟩ := x.done
  have hk₁ := x.toInCall.keep
  obtain ⟨cells, NC, Y⟩ := Cl.news (h₀ := s.heap) (Nat.le_refl _) fun n c hm => ⟨x.cell n c (lookup_of_mem_nodup (cellsFrom_names scope.names 0 (s.heap.objs.size + 1) [] [] rfl ▸ hnd) hm), x.above n c hm⟩
  refine wpC_mono (h _ s.heap.objs.size h₁ tk cells FG ⟨x.toInCall.ns, fun b o e => hk₁ b o (of_hideAll _ e), Nat.le_of_eq (hideAll_size _ _)⟩ (fun p hp => ?_) Y (fun p hp => Heap.lt_size (N p hp).1) BG (X₀.keeps SG) (T.keeps SG) dG) (fun fl s' hl => back _ _ hl) fun _ _ y => y
  rcases List.mem_append.mp hp with hp | hp
  · refine ⟨(NC p hp).1, (NC p hp).2.1, ?_⟩
    cases q : (hideAll s.heap (news.map (·.1))).get? p.1 with
    | none => rfl
    | some o => have := of_hideAll _ q; rw [(NC p hp).2.2] at this; cases this
  · exact ⟨hk₁ _ _ (N p hp).1, Nat.ne_of_lt (Heap.lt_size (N p hp).1), hideAll_none _ (List.mem_map_of_mem hp)⟩
end Mine
end
section
open PySem PySem.W PyProof.Rows PySem.Calls PySem.Spec
open PyProof.V
set_option Elab.async false
set_option maxRecDepth 100000
namespace Mine
def six (x1 x2 x3 x4 x5 x6 : Int) : PyData := .tuple [.int x1, .int x2, .int x3, .int x4, .int x5, .int x6]
theorem rd6 {h₀ h : Heap} {L a : Addr} {news : List (Addr × Obj)} {x1 x2 x3 x4 x5 x6 : Int} {u1 u2 u3 u4 u5 u6 : Tok} {k : Nat} (N : News h₀ L h news)
    (hm : (a, ({ cls := .type "tuple", data := .seq #[.int x1 u1, .int x2 u2, .int x3 u3, .int x4 u4, .int x5 u5, .int x6 u6] k } : Obj)) ∈ news) : ∃ as, Reads h (.ref a) (six x1 x2 x3 x4 x5 x6) as :=
  ⟨_, reads_tuple_at (News.get N hm) rfl rfl (.cons (.int _ _) (.cons (.int _ _) (.cons (.int _ _) (.cons (.int _ _) (.cons (.int _ _) (.cons (.int _ _) .nil))))))⟩
theorem rd3a {h₀ h : Heap} {L l a b c : Addr} {news : List (Addr × Obj)} {n : Nat} {d1 d2 d3 : PyData} (N : News h₀ L h news) (hm : (l, W.listOf #[.ref a, .ref b, .ref c] n) ∈ news)
    (ha : ∃ as, Reads h (.ref a) d1 as) (hb : ∃ as, Reads h (.ref b) d2 as) (hc' : ∃ as, Reads h (.ref c) d3 as) : ∃ as, Reads h (.ref l) (.list [d1, d2, d3]) as := by
  obtain ⟨_, ha⟩ := ha
  obtain ⟨_, hb⟩ := hb
  obtain ⟨_, hc'⟩ := hc'
  exact ⟨_, reads_list_at (News.get N hm) rfl rfl (.cons ha (.cons hb (.cons hc' .nil)))⟩
theorem rd3b {h₀ h : Heap} {L l a b c : Addr} {news : List (Addr × Obj)} {d1 d2 d3 : PyData} (N : News h₀ L h news) (hm : (l, LCg.lst [.ref a, .ref b, .ref c]) ∈ news)
    (ha : ∃ as, Reads h (.ref a) d1 as) (hb : ∃ as, Reads h (.ref b) d2 as) (hc' : ∃ as, Reads h (.ref c) d3 as) : ∃ as, Reads h (.ref l) (.list [d1, d2, d3]) as := rd3a (n := 3) N hm ha hb hc'
theorem eq3 {prog : Program} {w : World} {A : Around} {E : Value → Shared → Prop} {s : Shared} {l1 l2 : Addr} {x1 x2 x3 x4 x5 x6 y1 y2 y3 y4 y5 y6 z1 z2 z3 z4 z5 z6 : Int} {Q : Value → Shared → Prop}
    (r1 : ∃ as, Reads s.heap (.ref l1) (.list [six x1 x2 x3 x4 x5 x6, six y1 y2 y3 y4 y5 y6, six z1 z2 z3 z4 z5 z6]) as) (r2 : ∃ as, Reads s.heap (.ref l2) (.list [six x1 x2 x3 x4 x5 x6, six y1 y2 y3 y4 y5 y6, six z1 z2 z3 z4 z5 z6]) as)
    (hu : A.units + 64 < cLine) (h : Q (.bool true) s) : wpAny (model prog w) A (compareOp .Eq (.ref l1) (.ref l2)) Q E s := by
  obtain ⟨_, r1⟩ := r1
  obtain ⟨_, r2⟩ := r2
  refine eq_dataH r1 r2 (by simp [SeqAt.shaped, six, PyData.canLay0, PyData.canLayAll0, PyData.depth, PyData.depthAll]) (by simp [SeqAt.shaped, six, PyData.canLay0, PyData.canLayAll0, PyData.depth, PyData.depthAll]) hu ?_
  have e : PyData.eqv (.list [six x1 x2 x3 x4 x5 x6, six y1 y2 y3 y4 y5 y6, six z1 z2 z3 z4 z5 z6]) (.list [six x1 x2 x3 x4 x5 x6, six y1 y2 y3 y4 y5 y6, six z1 z2 z3 z4 z5 z6]) = true := by simp [six, PyData.eqv, PyData.eqvAll]
  rw [e]
  exact h
end Mine
end
section
open PySem PySem.W PyProof.Rows PySem.Calls PySem.Spec
set_option Elab.async false
set_option maxRecDepth 100000
namespace Mine
section
variable {prog : Program} {w : World} {A : Around} {E : Value → Shared → Prop} {s : Shared} {env : Env} {h₀ : Heap} {x : Str} {body : List Stmt} {Q : Flow → Shared → Prop}
/-- a for whose head turns the ground: the loop is judged over the ground that stands behind the head -/
theorem For_late {px pos : Pos} {iter : Expr} (hx : env.kindOf x = some .local)
    (hp : (env.scope.kind == .class || (env.scope.kind == .module && env.locals != env.globals)) = false) (hE : PassesOwn (model prog w) A env E)
    (h : wpAny (model prog w) A (eval iter env) (fun xv s₁ => ∃ h₀, wpAny (model prog w) A (pyIter xv) (fun it s₂ => LoopAtV prog w A h₀ env x body Q E it s₂) E s₁) E s)
    (hs : ∀ x, foldedSetIterable iter env x = pure x := by intro _; rfl) :
    wpAny (model prog w) A (exec (.For (.Name x px) iter body [] pos) env) Q E s := by
  refine wpAny_For (wpAny_mono h (fun xv s₁ ⟨h₀, h₁⟩ => wpAny_mono h₁ (fun it s₂ h₂ => ?_) fun _ _ e => e) fun _ _ e => e) hs
  obtain ⟨I, fp, wr, n, P, St, m, news, J, rfl, W, hLf, hwr, hnw, hst, F, N, h0, step, hQ⟩ := h₂
  exact codeAny_forLoop_frV (R := fun r s' => match r with | .ok f => Q f s' | .error e => cameBackBy (model prog w) A env E e s') W hx hp hLf hwr hnw hst F N J h0 (by intros; exact wpAny_passesOwn hE (by apply step <;> assumption)) hQ
def TupRest (prog : Program) (w : World) (A : Around) (E : Value → Shared → Prop) (h₀ : Heap) (env : Env) (x : Str) (body : List Stmt) (Q : Flow → Shared → Prop) (s : Shared) (I : Addr) (lp : Addr × Obj) : List Value → (Str → Option Value) → List (Addr × Obj) → Prop
  | [], m, news => ∀ h tk, Fr h₀ env.locals h m → News h₀ env.locals h news → Q .next { s with heap := h, toks := tk }
  | v :: r, m, news => ∀ (it : Obj) h tk, Fr h₀ env.locals h (fun y => if y = x then some v else m y) → News h₀ env.locals h ((I, it) :: news) →
      wpAny (model prog w) A (execs body env) (UnrPost h₀ env.locals { s with heap := h, toks := tk } I it (fun m' n' => lp ∈ n' ∧ TupRest prog w A E h₀ env x body Q s I lp r m' n') Q) E { s with heap := h, toks := tk }
theorem TupRest.zero {I : Addr} {lp : Addr × Obj} {m : Str → Option Value} {news : List (Addr × Obj)} (h : ∀ h tk, Fr h₀ env.locals h m → News h₀ env.locals h news → Q .next { s with heap := h, toks := tk }) :
    TupRest prog w A E h₀ env x body Q s I lp [] m news := h
theorem TupRest.succ {I : Addr} {lp : Addr × Obj} {v : Value} {r : List Value} {m : Str → Option Value} {news : List (Addr × Obj)}
    (h : ∀ (it : Obj) h tk, Fr h₀ env.locals h (fun y => if y = x then some v else m y) → News h₀ env.locals h ((I, it) :: news) →
      wpAny (model prog w) A (execs body env) (UnrPost h₀ env.locals { s with heap := h, toks := tk } I it (fun m' n' => lp ∈ n' ∧ TupRest prog w A E h₀ env x body Q s I lp r m' n') Q) E { s with heap := h, toks := tk }) :
    TupRest prog w A E h₀ env x body Q s I lp (v :: r) m news := h
theorem iter_tupUnr {ax : Addr} {vs : List Value} {n : Nat} {m₀ : Str → Option Value} {news : List (Addr × Obj)}
    (hh : A.handled = none) (F : Fr h₀ env.locals s.heap m₀) (N : News h₀ env.locals s.heap news) (hm : (ax, ({ cls := .type "tuple", data := .seq vs.toArray n } : Obj)) ∈ news)
    (rest₀ : ∀ I : Addr, (∀ p ∈ news, p.1 < I) → TupRest prog w A E h₀ env x body Q s I (ax, { cls := .type "tuple", data := .seq vs.toArray n }) vs m₀ news) :
    ∃ h₀, wpAny (model prog w) A (pyIter (.ref ax)) (fun it s₂ => LoopAtV prog w A h₀ env x body Q E it s₂) E s := by
  refine ⟨h₀, ?_⟩
  have hax := N _ hm
  have hl : s.heap.IsTuple ax vs.toArray := ⟨_, hax.1, rfl, n, rfl⟩
  have hlt : ax < s.heap.objs.size := Heap.lt_size hax.1
  have hne : ax ≠ s.heap.objs.size := Nat.ne_of_lt hlt
  refine wpAny_pyIter_tuple hl ?_
  have rest := rest₀ s.heap.objs.size fun p hp => Heap.lt_size (N p hp).1
  have W := Walks.tuple (prog := prog) (w := w) hh s.heap.objs.size ax hne vs.toArray
  have hnew := next_is_new F
  have hlen : vs.toArray.size = vs.length := by simp
  rw [hlen] at W
  let lo : Obj := { cls := .type "tuple", data := .seq vs.toArray n }
  let J : Nat → (Str → Option Value) → List (Addr × Obj) → Prop := fun i m₁ news₁ => (ax, lo) ∈ news₁ ∧ TupRest prog w A E h₀ env x body Q s s.heap.objs.size (ax, lo) (vs.drop i) m₁ news₁
  refine ⟨_, _, _, vs.length, _, _, m₀, news, J, rfl, W, ?_, ?_, ?_, ⟨⟨_, Heap.get?_push_size _ rfl, rfl, rfl⟩, hl.at fun o e => Heap.get?_push_of_some _ e⟩, F.push _, (fun p hp => ⟨Heap.get?_push_of_some _ (N p hp).1, (N p hp).2⟩), ⟨hm, by rw [List.drop_zero]; exact rest⟩, ?_, ?_⟩
  · intro hmm
    rcases List.mem_cons.mp hmm with e | hmm
    · exact absurd F.ns.lt (e ▸ Nat.lt_irrefl _)
    · exact hax.2.1 (List.mem_singleton.mp hmm).symm
  · intro b hb
    rw [List.mem_singleton.mp hb]
    exact hnew
  · intro p hp hI
    exact absurd (Heap.lt_size (N p hp).1) ((List.mem_singleton.mp hI) ▸ Nat.lt_irrefl _)
  · rintro i v m₁ news₁ s₁ own ⟨hh', tk', rfl⟩ hin hP ⟨hmem₁, hJ⟩ hoff hown hget hall hst F₁ N₁
    obtain ⟨it, hit, hic, hid⟩ := hst.1
    have hmemI := hall s.heap.objs.size (List.mem_cons_self ..) hnew _ hit
    have hdrop : vs.drop i = v :: vs.drop (i + 1) := by
      have hlt' : i < vs.length := hin
      have hv : vs[i]? = some v := by simpa using hP
      rw [List.drop_eq_getElem_cons hlt']
      congr 1
      exact Option.some.inj ((List.getElem?_eq_getElem hlt').symm.trans hv)
    rw [hdrop] at hJ
    have N₂ : News h₀ env.locals hh' ((s.heap.objs.size, it) :: news₁) := fun p hp => by
      rcases List.mem_cons.mp hp with rfl | hp
      · exact N₁ _ (List.mem_append_left _ hmemI)
      · exact N₁ _ (List.mem_append_right _ hp)
    refine wpAny_mono (hJ it hh' tk' F₁ N₂) (fun f s₂ p => ?_) fun _ _ e => e
    have fin : UnrEnd h₀ env.locals { s with heap := hh', toks := tk' } s.heap.objs.size it (fun m' n' => (ax, lo) ∈ n' ∧ TupRest prog w A E h₀ env x body Q s s.heap.objs.size (ax, lo) (vs.drop (i + 1)) m' n') s₂ →
        LoopStepU h₀ env.locals [s.heap.objs.size] own (J (i + 1)) { s with heap := hh', toks := tk' } .next s₂ := by
      rintro ⟨h', tk, m', news', e, F', N', ho, hmm, r⟩
      refine ⟨rfl, h', tk, m', news', e, F', fun p hp => ?_, fun p hp hI => ho p hp (List.mem_singleton.mp hI), hmm, r⟩
      rcases List.mem_append.mp hp with hp | hp
      · have h2 : hh'.get? p.1 = some p.2 := hget p hp
        rcases List.mem_cons.mp (hown p hp) with h1 | h1
        · have h3 : p = (s.heap.objs.size, it) := by
            rw [h1, hit] at h2
            exact Prod.ext h1 (Option.some.inj h2).symm
          rw [h3]; exact N' _ (List.mem_cons_self ..)
        · have h1' : p.1 = ax := List.mem_singleton.mp h1
          have h3 : p = (ax, lo) := by
            rw [h1', (N₁ _ (List.mem_append_right _ hmem₁)).1] at h2
            exact Prod.ext h1' (Option.some.inj h2).symm
          rw [h3]; exact N' _ (List.mem_cons_of_mem _ hmm)
      · exact N' _ (List.mem_cons_of_mem _ hp)
    cases f with
    | ret v => exact .ret p
    | brk => exact .brk p
    | next => exact .next (fin p)
    | cont => exact .cont (fin p)
  · rintro h' tk m' news' F' N' _ ⟨_, hJ⟩
    have z : vs.drop vs.length = [] := List.drop_length
    rw [z] at hJ
    exact hJ h' tk F' N'
end
theorem wpC_never {α : Type} {M : Model} {A : Around} {E : Value → Shared → Prop} {s : Shared} {t : Sem α} {Q : α → Shared → Prop} (h : wpAny M A t Q (fun _ _ => False) s) : wpC M A t Q E s := wpC_of (wpAny_mono h (fun _ _ x => x) fun _ _ x => x.elim)
end Mine
end
section
open PySem PySem.W PyProof.Rows PySem.Calls PySem.Spec
set_option Elab.async false
set_option maxRecDepth 100000
namespace Mine
section
variable {M : Model} {A : Around} {E : Value → Shared → Prop} {s : Shared}
theorem codeC_loop {c : Code} {R : Result → Shared → Prop} (hn : NoDec c) (hq : c.quiet = true) (I : Nat → Shared → Prop)
    (turn : ∀ n s, I n s → wpC M (A.under c) (M.den c)
      (fun fin s' => match fin with
        | .done f => R (.ok f) s'
        | .again c' => (c' = c ∧ ∃ m, m < n ∧ I m s') ∨ (c'.quiet = true ∧ codeC M A c' R s')) (fun e s' => R (.error e) s') s)
    (n : Nat) (h : I n s) : codeC M A c R s := by
  induction n using Nat.strongRecOn generalizing s with
  | ind n ih =>
    refine codeC_of_tree hn (wpC_mono (turn n s h) (fun fin s' hf => ?_) fun _ _ h' => h')
    cases fin with
    | done f => exact hf
    | again c' =>
      rcases hf with ⟨rfl, m, hm, hI⟩ | hf
      · exact ⟨hq, ih m hm hI⟩
      · exact hf
theorem wpC_run {c : Code} {Q : Flow → Shared → Prop} (hc : codeC M A c (fun r s' => match r with | .ok f => Q f s' | .error e => E e s') s) : wpC M A (run c none) Q E s :=
  fun Γ p hΓ k => by rw [Sem.wp_run]; exact hc _ p rfl (hΓ.enter c none p (by intro x; cases x)) (k.enter c none p)
end
section
variable {prog : Program} {w : World} {A : Around} {E : Value → Shared → Prop} {s : Shared} {env : Env} {h₀ : Heap} {L : Addr} {x : Str} {body : List Stmt} {Q : Flow → Shared → Prop}
/-- a loop over clean stacks, none of whose turns raises -/
theorem codeC_forLoop {R : Result → Shared → Prop} {target : Expr} {it : Value} (I : Nat → Shared → Prop)
    (turn : ∀ n s, I n s → wpAny (model prog w) A (pyNext it) (fun r s₁ => match r with
      | none => R (.ok .next) s₁
      | some v => wpAny (model prog w) A (assign target env v) (fun _ s₂ => wpC (model prog w) A (execs body env) (fun f s₃ => match f with
          | .next | .cont => ∃ m, m < n ∧ I m s₃
          | .brk => R (.ok .next) s₃
          | .ret v => R (.ok (.ret v)) s₃) (fun _ _ => False) s₂) (fun _ _ => False) s₁) (fun _ _ => False) s)
    (n : Nat) (h : I n s) (ht : ∀ v, letOwnedTupleGo target it v = pure () := by intro _; rfl) : codeC (model prog w) A (.forLoop target it body [] env) R s := by
  refine codeC_loop trivial rfl I (fun n s hI => ?_) n h
  show wpC _ A ((forTurn target it body [] env).onRaise (fun x => do noteFrame x env; theTreesLotGoes x)) _ _ s
  refine wpC_onRaise (wpC_mono (E := fun _ _ => False) ?_ (fun _ _ x => x) fun _ _ x => x.elim)
  simp only [forTurn]
  refine wpC_bind (wpC_of (wpAny_standAt (wpC_bind (wpC_of (wpAny_onRaise (wpAny_mono (turn n s hI) (fun r s₁ h₁ => ?_) fun _ _ h' => h'.elim))))))
  cases r with
  | none => exact wpC_pure (.inr ⟨rfl, codeC_of (codeAny_block (wpAny_execs_nil h₁))⟩)
  | some v =>
    refine wpC_bind (wpC_of (wpAny_of_eq (ht v) ?_))
    refine wpC_bind (wpC_of (wpAny_mono h₁ (fun _ s₂ h₂ => wpC_bind (wpC_mono h₂ (fun f s₃ h₃ => ?_) fun _ _ h' => h')) fun _ _ h' => h'))
    cases f with
    | next => exact wpC_pure (.inl ⟨rfl, h₃⟩)
    | cont => exact wpC_pure (.inl ⟨rfl, h₃⟩)
    | brk => exact wpC_pure h₃
    | ret v => exact wpC_pure h₃
theorem wpC_For {px pos : Pos} {iter : Expr}
    (h : wpAny (model prog w) A (eval iter env) (fun xv s₁ => wpAny (model prog w) A (pyIter xv) (fun it s₂ =>
      codeC (model prog w) A (.forLoop (.Name x px) it body [] env) (fun r s' => match r with | .ok f => Q f s' | .error _ => False) s₂) (fun _ _ => False) s₁) (fun _ _ => False) s)
    (hs : ∀ x, foldedSetIterable iter env x = pure x := by intro _; rfl) :
    wpC (model prog w) A (exec (.For (.Name x px) iter body [] pos) env) Q E s := by
  rw [exec_For]
  refine wpC_bind (wpC_of (wpAny_standAt (wpC_bind (wpC_of (wpAny_mono h (fun xv s₁ h₁ => ?_) fun _ _ e => e.elim)))))
  refine wpC_bind (wpC_of (wpAny_of_eq (hs xv) (wpC_bind (wpC_of (wpAny_standAt (wpC_bind (wpC_of (wpAny_holding (wpAny_mono h₁ (fun it s₂ h₂ => ?_) fun _ _ e => e.elim)))))))))
  unfold runOwn
  exact wpC_onRaise (wpC_run (codeC_mono h₂ fun r s' hr => by
    cases r with
    | ok f => exact hr
    | error e => exact hr.elim))
/-- what a turn leaves -/
def TurnEnd (h₀ : Heap) (L : Addr) (J : (Str → Option Value) → Prop) (I : Addr) (it : Obj) (news : List (Addr × Obj)) (s s' : Shared) : Prop :=
  ∃ h' tk' m', s' = { s with heap := h', toks := tk' } ∧ J m' ∧ Fr h₀ L h' m' ∧ News h₀ L h' ((I, it) :: news)
theorem loopC {px : Pos} {I : Addr} {fp : List Addr} {n : Nat} {P : Nat → Value → Prop} {St : Nat → Heap → Prop} {S : List (Addr × Obj) → Prop} {m : Str → Option Value} {news : List (Addr × Obj)}
    (W : Walks prog w A I fp [I] n P St) (hIo : ∀ i h, St i h → ∃ o, h.get? I = some o)
    (hSt : ∀ i (h h' : Heap) (o : Obj) (nw : List (Addr × Obj)), St i h → h.get? I = some o → h'.get? I = some o → (∀ b o, h₀.get? b = some o → h'.get? b = some o) → News h₀ env.locals h' nw → S nw → St i h')
    (hx : env.kindOf x = some .local) (hp : (env.scope.kind == .class || (env.scope.kind == .module && env.locals != env.globals)) = false)
    (hst : St 0 s.heap) (hLf : env.locals ∉ fp) (F : Fr h₀ env.locals s.heap m) (N : News h₀ env.locals s.heap news) (hIL : env.locals ≠ I) (hI₀ : h₀.get? I = none) (off : ∀ p ∈ news, p.1 ≠ I) (hS : S news)
    (J : (Str → Option Value) → Prop) (h0 : J m)
    (turn : ∀ i v h tk m' it, i < n → P i v → J m' → Fr h₀ env.locals h (fun y => if y = x then some v else m' y) → News h₀ env.locals h ((I, it) :: news) →
      wpC (model prog w) A (execs body env) (fun f s' => match f with
        | .next | .cont => TurnEnd h₀ env.locals J I it news s s'
        | .brk => False
        | .ret v => Q (.ret v) s') (fun _ _ => False) { s with heap := h, toks := tk })
    (done : ∀ m' h tk, J m' → Fr h₀ env.locals h m' → News h₀ env.locals h news → Q .next { s with heap := h, toks := tk }) :
    codeC (model prog w) A (.forLoop (.Name x px) (.ref I) body [] env) (fun r s' => match r with | .ok f => Q f s' | .error _ => False) s := by
  have hL₀ : h₀.get? env.locals = none := Heap.get?_none_of_le F.above
  refine codeC_forLoop (fun k s' => ∃ h' tk i m', s' = { s with heap := h', toks := tk } ∧ i ≤ n ∧ k = n + 1 - i ∧ St i h' ∧ J m' ∧ Fr h₀ env.locals h' m' ∧ News h₀ env.locals h' news) ?_ (n + 1)
    ⟨s.heap, s.toks, 0, m, rfl, Nat.zero_le _, rfl, hst, h0, F, N⟩
  rintro k s' ⟨h', tk, i, m', rfl, hi, rfl, hst', hJ, F', N'⟩
  by_cases hlt : i < n
  · refine W.item i _ _ _ hlt hst' fun v h₂ tk₂ hPv hst₂ hk₂ => ?_
    have F₂ := LCg.fr_but F' hk₂ hIL hI₀
    have N₂ := LCg.news_but N' hk₂ off
    refine wpAny_assign_Name (wpAny_storeName_local hx F₂.ns (fun h₃ hn₃ hs₃ => ?_) hp)
    have hst₃ : St (i + 1) h₃ := W.frame _ _ _ hst₂ fun b hb o e => hs₃.extBut b o (fun q => hLf (q ▸ hb)) e
    obtain ⟨oI, heI⟩ := hIo _ _ hst₃
    have F₃ := F₂.set hn₃ hs₃
    have N₃ : News h₀ env.locals h₃ ((I, oI) :: news) := fun p hp => by
      rcases List.mem_cons.mp hp with rfl | hp
      · exact ⟨heI, Ne.symm hIL, hI₀⟩
      · exact (N₂.set hs₃) p hp
    refine wpC_mono (turn i v h₃ _ m' oI hlt hPv hJ F₃ N₃) (fun f s₄ h₄ => ?_) fun _ _ e => e
    have fin : TurnEnd h₀ env.locals J I oI news s s₄ → ∃ m, m < n + 1 - i ∧ ∃ h' tk i m', s₄ = { s with heap := h', toks := tk } ∧ i ≤ n ∧ m = n + 1 - i ∧ St i h' ∧ J m' ∧ Fr h₀ env.locals h' m' ∧ News h₀ env.locals h' news := by
      rintro ⟨h₅, tk₅, m₅, rfl, hJ₅, F₅, N₅⟩
      have N₆ : News h₀ env.locals h₅ news := fun p hp => N₅ p (List.mem_cons_of_mem _ hp)
      exact ⟨n + 1 - (i + 1), by omega, h₅, tk₅, i + 1, m₅, rfl, hlt, rfl, hSt _ _ _ _ _ hst₃ heI (N₅ _ List.mem_cons_self).1 F₅.keep N₆ hS, hJ₅, F₅, N₆⟩
    cases f with
    | next => exact fin h₄
    | cont => exact fin h₄
    | brk => exact h₄.elim
    | ret v => exact h₄
  · obtain rfl : i = n := Nat.le_antisymm hi (Nat.not_lt.mp hlt)
    refine W.done _ _ _ hst' fun h₂ tk₂ hk₂ => ?_
    exact done m' h₂ tk₂ hJ (LCg.fr_but F' hk₂ hIL hI₀) (LCg.news_but N' hk₂ off)
/-- a loop over range(b), none of whose turns raises -/
theorem range_loopC {px : Pos} {r : Addr} {b : Int} {t u v : Tok} {m : Str → Option Value} {news : List (Addr × Obj)} (hh : A.handled = none)
    (F : Fr h₀ env.locals s.heap m) (N : News h₀ env.locals s.heap news) (hr : IsRange s.heap r 0 b 1 t u v) (hsm : Builtin.Range.small 0 b 1 = true)
    (hx : env.kindOf x = some .local) (hp : (env.scope.kind == .class || (env.scope.kind == .module && env.locals != env.globals)) = false)
    (J : (Str → Option Value) → Prop) (h0 : J m)
    (turn : ∀ (i : Nat) t h tk m' I it, (i : Int) < b → (∀ p ∈ news, p.1 < I) → J m' → Fr h₀ env.locals h (fun y => if y = x then some (.int (i : Int) t) else m' y) → News h₀ env.locals h ((I, it) :: news) →
      wpC (model prog w) A (execs body env) (fun f s' => match f with
        | .next | .cont => TurnEnd h₀ env.locals J I it news s s'
        | .brk => False
        | .ret v => Q (.ret v) s') (fun _ _ => False) { s with heap := h, toks := tk })
    (done : ∀ m' h tk, J m' → Fr h₀ env.locals h m' → News h₀ env.locals h news → Q .next { s with heap := h, toks := tk }) :
    wpAny (model prog w) A (pyIter (.ref r)) (fun it s₂ => codeC (model prog w) A (.forLoop (.Name x px) it body [] env) (fun r s' => match r with | .ok f => Q f s' | .error _ => False) s₂) (fun _ _ => False) s := by
  have hn : Builtin.Range.rangeSize 0 b 1 = ((b.toNat : Nat) : Int) := by rw [rangeSize_nat]; congr 2; omega
  refine wpAny_pyIter_range hr hsm ?_
  have off : ∀ p ∈ news, p.1 < s.heap.objs.size := fun p hp => Heap.lt_size (N p hp).1
  refine loopC (s := { s with heap := s.heap.push { cls := .type "range_iterator", data := .fields #[rawInt 0, rawInt (Builtin.Range.rangeSize 0 b 1), rawInt 1] } }) (S := fun _ => True) (LCg.range_walks (I := s.heap.objs.size) hh 0 b.toNat) (fun i h st => ⟨_, st⟩) LCg.range_st hx hp (by show IsRangeIter _ _ _ _ _; rw [hn]; simpa using Heap.get?_push_size _ rfl) ?_
    (F.keeps fun _ _ e => Heap.get?_push_of_some _ e) (N.grown fun _ _ e => Heap.get?_push_of_some _ e) (Nat.ne_of_lt F.ns.lt) (next_is_new F) (fun p hp => Nat.ne_of_lt (off p hp)) trivial J h0 (fun i v h tk m' it hi hP hJ F' N' => ?_) (fun m' h tk a b c => done m' h tk a b c)
  · intro hm
    exact absurd F.ns.lt ((List.mem_singleton.mp hm) ▸ Nat.lt_irrefl _)
  · obtain ⟨t', rfl⟩ := hP
    rw [Int.zero_add] at F'
    exact turn i t' h tk m' _ it (by omega) off hJ F' N'
/-- a loop over a list of ints of the ledger, none of whose turns raises -/
theorem ints_loopC {px : Pos} {ax : Addr} {vs : List Value} {ns : List Int} {k : Nat} {m : Str → Option Value} {news : List (Addr × Obj)} (hh : A.handled = none)
    (F : Fr h₀ env.locals s.heap m) (N : News h₀ env.locals s.heap news) (hm : (ax, W.listOf vs.toArray k) ∈ news) (hI : IntsAre vs ns)
    (hx : env.kindOf x = some .local) (hp : (env.scope.kind == .class || (env.scope.kind == .module && env.locals != env.globals)) = false)
    (J : (Str → Option Value) → Prop) (h0 : J m)
    (turn : ∀ (n : Int) t h tk m' I it, (∀ p ∈ news, p.1 < I) → J m' → Fr h₀ env.locals h (fun y => if y = x then some (.int n t) else m' y) → News h₀ env.locals h ((I, it) :: news) →
      wpC (model prog w) A (execs body env) (fun f s' => match f with
        | .next | .cont => TurnEnd h₀ env.locals J I it news s s'
        | .brk => False
        | .ret v => Q (.ret v) s') (fun _ _ => False) { s with heap := h, toks := tk })
    (done : ∀ m' h tk, J m' → Fr h₀ env.locals h m' → News h₀ env.locals h news → Q .next { s with heap := h, toks := tk }) :
    wpAny (model prog w) A (pyIter (.ref ax)) (fun it s₂ => codeC (model prog w) A (.forLoop (.Name x px) it body [] env) (fun r s' => match r with | .ok f => Q f s' | .error _ => False) s₂) (fun _ _ => False) s := by
  have hl : s.heap.IsList ax vs.toArray := ⟨_, News.get N hm, rfl, k, rfl⟩
  have off : ∀ p ∈ news, p.1 < s.heap.objs.size := fun p hp => Heap.lt_size (N p hp).1
  have hlt : ax < s.heap.objs.size := off _ hm
  refine wpAny_pyIter_list hl ?_
  have up : ∀ b o, s.heap.get? b = some o → (s.heap.push { cls := .type "list_iterator", data := .fields #[.ref ax, .int 0 0] }).get? b = some o := fun b o e => Heap.get?_push_of_some _ e
  refine loopC (s := { s with heap := s.heap.push { cls := .type "list_iterator", data := .fields #[.ref ax, .int 0 0] } }) (S := LCg.SrcAt h₀ ax vs.toArray) (Walks.list hh s.heap.objs.size ax (Nat.ne_of_lt hlt) vs.toArray) (fun i h st => by obtain ⟨o, e, _⟩ := st.1; exact ⟨o, e⟩) LCg.list_st hx hp ⟨⟨_, Heap.get?_push_size _ rfl, rfl, rfl⟩, hl.push _⟩ ?_
    (F.keeps up) (N.grown up) (Nat.ne_of_lt F.ns.lt) (next_is_new F) (fun p hp => Nat.ne_of_lt (off p hp)) (.inr ⟨_, hm, rfl, _, rfl⟩) J h0 (fun i v h tk m' it hi hP hJ F' N' => ?_) (fun m' h tk a b c => done m' h tk a b c)
  · intro hmm
    rcases List.mem_cons.mp hmm with e | hmm
    · exact absurd F.ns.lt (e ▸ Nat.lt_irrefl _)
    · exact (N _ hm).2.1 (List.mem_singleton.mp hmm).symm
  · have hi' : i < ns.length := by rw [← hI.length]; simpa using hi
    obtain ⟨t', hx'⟩ := hI.get i ns[i] (by simp [hi'])
    have hv : v = .int ns[i] t' := by
      have hP' : vs[i]? = some v := by simpa using hP
      rw [hx'] at hP'; exact (Option.some.inj hP').symm
    subst hv
    exact turn _ t' h tk m' _ it off hJ F' N'
end
theorem turn_end {g h' : Heap} {L I : Addr} {J : (Str → Option Value) → Prop} {it : Obj} {m' : Str → Option Value} {news all : List (Addr × Obj)} {s : Shared} {tk' : Nat} (F : Fr g L h' m') (N : News g L h' all) (sub : ∀ p ∈ (I, it) :: news, p ∈ all) (hJ : J m') :
    TurnEnd g L J I it news s { s with heap := h', toks := tk' } := ⟨h', tk', m', rfl, hJ, F, fun p hp => N p (sub p hp)⟩
end Mine
end
section
open PySem PySem.W PyProof.Rows PySem.Calls PySem.Spec
set_option Elab.async false
set_option maxRecDepth 100000
namespace Mine
section
variable {M : Model} {A : Around} {E : Value → Shared → Prop} {s : Shared} {env : Env} {pos : Pos}
/-- an own function of the top called with one argument -/
theorem wpC_fn1 {id : Str} {p : Pos} {e : Expr} {K : Frag} {f : Value} {Q : Value → Shared → Prop} (hb : starEach [e] env = [(false, eval e env)]) (hk : keepIn K f = true)
    (h : wpAny M A (eval (.Name id p) env) (fun g s₁ => g = f ∧ wpAny M A (eval e env) (fun v s₂ => K.In s₂.heap ∧ wpC M A (call f [v] []) Q E s₂) E s₁) E s) :
    wpC M A (eval (.Call (.Name id p) [e] [] pos) env) Q E s := by
  show wpC M A (do callWith pos (← eval (.Name id p) env) [] (backTo pos (starEach [e] env)) (backToKw pos (keywordEach [] env))) Q E s
  refine wpC_bind (wpC_of (wpAny_mono h (fun g s₁ h₁ => ?_) fun _ _ x => x))
  obtain ⟨rfl, h₁⟩ := h₁
  rw [hb]
  show wpC M A (callWith pos g [] [(false, eval e env)] []) Q E s₁
  exact wpC_callWith rfl (keeps_K hk) (evalArgs_plain (spliced_cons (wpAny_mono h₁ (fun v s₃ h₃ => spliced_nil h₃) fun _ _ x => x)))
theorem wpC_isTrue_not {x : Expr} {wh : Sem Value} {Q : Bool → Shared → Prop} (h : wpC M A (isTrue x env (eval x env)) (fun b s' => Q (!b) s') E s) : wpC M A (isTrue (.UnaryOp .Not x pos) env wh) Q E s := by
  show wpC M A (do return !(← isTrue x env (eval x env))) Q E s
  exact wpC_bind (wpC_mono h (fun _ _ q => wpC_pure q) fun _ _ q => q)
theorem wpC_isTrue_or2 {a b : Expr} {wh : Sem Value} {Q : Bool → Shared → Prop}
    (h : wpC M A (isTrue a env (eval a env)) (fun c s₁ => if c then Q true s₁ else wpC M A (isTrue b env (eval b env)) Q E s₁) E s) : wpC M A (isTrue (.BoolOp .Or [a, b] pos) env wh) Q E s := by
  refine wpC_bind (m := isTrue a env (eval a env)) (wpC_mono h (fun c s₁ h₁ => ?_) fun _ _ q => q)
  cases c with
  | true => exact wpC_pure h₁
  | false =>
    show wpC M A (allTrue .Or [b] env) Q E s₁
    refine wpC_bind (m := isTrue b env (eval b env)) (wpC_mono h₁ (fun c s₂ h₂ => ?_) fun _ _ q => q)
    cases c with
    | true => exact wpC_pure h₂
    | false => exact wpC_pure h₂
theorem wpC_IfC {test : Expr} {body orelse : List Stmt} {Q : Flow → Shared → Prop}
    (h : wpC M A (isTrue test env (eval test env)) (fun b s₂ => if b then wpC M A (execs body env) Q E s₂ else wpC M A (execs orelse env) Q E s₂) E s) :
    wpC M A (exec (.If test body orelse pos) env) Q E s := fun Γ p hΓ k => by
  simp only [exec_If, Sem.wp_bind', Sem.wp_cmd_standAt]
  refine Sem.wp_mono M Γ _ (fun b p₂ s₂ h₂ => ?_) (fun _ _ _ h' => h') _ _ (h Γ _ hΓ k)
  cases b <;> exact h₂ Γ p₂ hΓ k
theorem wpC_isTrue_call {f : Expr} {a : List Expr} {kw : List Keyword} {wh : Sem Value} {Q : Bool → Shared → Prop}
    (h : wpC M A wh (fun v s₁ => v = .bool true ∧ Q true s₁) E s) : wpC M A (isTrue (.Call f a kw pos) env wh) Q E s := by
  show wpC M A (do let v ← wh; standAt (Expr.Call f a kw pos).pos; holding [v] (truthy v)) Q E s
  refine wpC_bind (wpC_mono h (fun v s₁ h₁ => ?_) fun _ _ q => q)
  obtain ⟨rfl, h₁⟩ := h₁
  refine wpC_bind (wpC_of (wpAny_standAt ?_))
  exact wpC_holding (wpC_pure h₁)
end
theorem fr_two {g h : Heap} {L : Addr} {x a b : Str} {v : Option Value} {va vb : Value} {m : Str → Option Value} (ha : m a = some va) (hb : m b = some vb) (F : Fr g L h (fun y => if y = x then v else m y)) :
    Fr g L h (fun y => if y = x then v else if y = a then some va else if y = b then some vb else m y) := by
  have e : (fun y => if y = x then v else if y = a then some va else if y = b then some vb else m y) = fun y => if y = x then v else m y := by
    funext y
    by_cases h1 : y = x
    · rw [if_pos h1, if_pos h1]
    · rw [if_neg h1, if_neg h1]
      by_cases h2 : y = a
      · rw [if_pos h2, h2, ha]
      · rw [if_neg h2]
        by_cases h3 : y = b
        · rw [if_pos h3, h3, hb]
        · rw [if_neg h3]
  rw [e]; exact F
theorem fr_two0 {g h : Heap} {L : Addr} {a b : Str} {va vb : Value} {m : Str → Option Value} (ha : m a = some va) (hb : m b = some vb) (F : Fr g L h m) :
    Fr g L h (fun y => if y = a then some va else if y = b then some vb else m y) := by
  have e : (fun y => if y = a then some va else if y = b then some vb else m y) = m := by
    funext y
    by_cases h2 : y = a
    · rw [if_pos h2, h2, ha]
    · rw [if_neg h2]
      by_cases h3 : y = b
      · rw [if_pos h3, h3, hb]
      · rw [if_neg h3]
  rw [e]; exact F
/-- a ledger is kept in sight -/
def Mark (_ : List (Addr × Obj)) : Prop := True
theorem mark {g : Heap} {L : Addr} {h : Heap} {news : List (Addr × Obj)} (_ : News g L h news) : Mark news := trivial
theorem fr_one0 {g : Heap} {L : Addr} {h : Heap} {m₁ : Str → Option Value} {x : Str} {v : Value} (hm : m₁ x = some v) (F : Fr g L h m₁) : Fr g L h (fun z => if z = x then some v else m₁ z) := by
  have e : (fun z => if z = x then some v else m₁ z) = m₁ := by
    funext z
    by_cases hz : z = x
    · rw [if_pos hz, hz, hm]
    · rw [if_neg hz]
  rw [e]; exact F
/-- of all names but n nothing is asked any more -/
theorem cut_n {M : Model} {A : Around} {rest : List Stmt} {env : Env} {Q : Flow → Shared → Prop} {E : Value → Shared → Prop} {g : Heap} {L : Addr} {m₁ : Str → Option Value} {news₀ news : List (Addr × Obj)} {h0 : Heap} {t0 : Nat} {gg : Array GenState} {dd : Drawn} {oo : OsState} {nn : Int} {tn : Tok}
    (F₀ : Fr g L h0 m₁) (N₀ : News g L h0 news₀) (_ : Mark news) (hs : ∀ p ∈ news, p ∈ news₀) (hm : m₁ (Str.ofString "n") = some (.int nn tn))
    (H : ∀ (nn : Int) (tn : Tok) (m₀ : Str → Option Value) (h' : Heap) (tk : Nat), Fr g L h' (fun z => if z = Str.ofString "n" then some (.int nn tn) else m₀ z) → News g L h' news → wpC M A (execs rest env) Q E ⟨h', gg, dd, tk, oo⟩) : wpC M A (execs rest env) Q E ⟨h0, gg, dd, t0, oo⟩ :=
  H nn tn m₁ h0 t0 (fr_one0 hm F₀) (news_drop N₀ hs)
/-- the words are made: the rest, over any list of one to six of them -/
theorem cut01 {M : Model} {A : Around} {rest : List Stmt} {env : Env} {Q : Flow → Shared → Prop} {E : Value → Shared → Prop} {s₀ : Shared} {g : Heap} {L D₀ : Addr} {sc : Value} {m₁ : Str → Option Value} {news₀ : List (Addr × Obj)} {ys₀ : List Value} {ns₀ : List Int}
    (F₀ : Fr g L s₀.heap m₁) (N₀ : News g L s₀.heap news₀) (hm : m₁ (Str.ofString "words") = some (.ref D₀)) (hsc : m₁ (Str.ofString "script") = some sc) (hD₀ : (D₀, LCg.lst ys₀) ∈ news₀) (hI₀ : IntsAre ys₀ ns₀)
    (h1 : 1 ≤ ns₀.length) (h2 : ns₀.length ≤ 6) (hb : ∀ n ∈ ns₀, 0 ≤ n ∧ n < 65536)
    (hq : ∀ (m' : Str → Option Value) (h' : Heap) (tk : Nat), Fr g L h' m' → News g L h' news₀ → Q (.ret (.bool true)) { s₀ with heap := h', toks := tk })
    (H : ∀ (Q : Flow → Shared → Prop) (E : Value → Shared → Prop) (s : Shared) (m₀ : Str → Option Value) (news : List (Addr × Obj)) (ys : List Value) (ns : List Int) (D : Addr), (D, LCg.lst ys) ∈ news → IntsAre ys ns → 1 ≤ ns.length → ns.length ≤ 6 → (∀ n ∈ ns, 0 ≤ n ∧ n < 65536) →
      Fr g L s.heap (fun z => if z = Str.ofString "words" then some (.ref D) else if z = Str.ofString "script" then some sc else m₀ z) → News g L s.heap news →
      (∀ (m' : Str → Option Value) (h' : Heap) (tk : Nat), Fr g L h' m' → News g L h' news → Q (.ret (.bool true)) { s with heap := h', toks := tk }) → wpC M A (execs rest env) Q E s) : wpC M A (execs rest env) Q E s₀ :=
  H Q E s₀ m₁ news₀ ys₀ ns₀ D₀ hD₀ hI₀ h1 h2 hb (fr_two0 hm hsc F₀) N₀ hq
theorem words_ok (ks : List Int) : ∀ n ∈ List.map (fun k' => (if k' < 0 then -k' else k').fmod 65536) ks, 0 ≤ n ∧ n < 65536 := by
  intro n hn
  obtain ⟨k, _, rfl⟩ := List.mem_map.mp hn
  exact ⟨fm_lo _, fm_hi _⟩
theorem words_one (x : Int) : ∀ n ∈ [x.fmod 65536], 0 ≤ n ∧ n < 65536 := by
  intro n hn
  rw [List.mem_singleton.mp hn]
  exact ⟨fm_lo _, fm_hi _⟩
section
variable {prog : Program} {w : World} {A : Around} {E : Value → Shared → Prop} {s : Shared} {h₀ : Heap} {L : Addr} {news : List (Addr × Obj)} {l : Addr} {ys : List Value} {ns : List Int}
theorem len_words {Q : Value → Shared → Prop} (N : News h₀ L s.heap news) (hm : (l, LCg.lst ys) ∈ news) (hI : IntsAre ys ns) (h6 : ns.length ≤ 6) (h : ∀ t tk, Q (.int ((ns.length : Nat) : Int) t) { s with toks := tk }) :
    wpAny (model prog w) A (call (.builtin "len") [.ref l]) Q E s := by
  have e : ys.toArray.size = ns.length := by rw [List.size_toArray, hI.length]
  exact call_len_list (show s.heap.IsList l ys.toArray from ⟨_, News.get N hm, rfl, _, rfl⟩) (by rw [e]; omega) (by rw [e]; exact h _ _)
/-- a word of one to six, at a place from the last but one's end on -/
theorem item_word {value slice : PySem.Expr} {i : Int} {t : Tok} {Q : Value → Shared → Prop} (N : News h₀ L s.heap news)
    (hm : (l, LCg.lst ys) ∈ news) (hI : IntsAre ys ns) (h1 : 1 ≤ ns.length) (h6 : ns.length ≤ 6) (hb : ∀ n ∈ ns, 0 ≤ n ∧ n < 65536) (lo : -1 ≤ i) (hi : i < ((ns.length : Nat) : Int)) (h : ∀ n u, 0 ≤ n → n < 65536 → Q (.int n u) s)
    (hs : subscripted slice false (.ref l) (.int i t) = operate [.ref l, .int i t] (getItem (.ref l) (.int i t)) := by with_unfolding_all rfl) :
    wpAny (model prog w) A (subscriptTail value slice (.ref l) (.int i t)) Q E s := by
  have hl : s.heap.IsList l (List.toArray ys) := ⟨_, News.get N hm, rfl, _, rfl⟩
  have at_ : ∀ k : Nat, k < ns.length → 0 ≤ ns.getD k 0 ∧ ns.getD k 0 < 65536 := fun k hk => by
    rw [List.getD_eq_getElem?_getD, List.getElem?_eq_getElem hk]
    exact hb _ (List.getElem_mem hk)
  by_cases hn : 0 ≤ i
  · exact item_list_intsR hl hI hn hi (by omega) (fun u => h _ _ (at_ _ (by omega)).1 (at_ _ (by omega)).2) hs
  · exact item_list_ints_negR hl hI (by omega) (by omega) (by omega) (fun u => h _ _ (at_ _ (by omega)).1 (at_ _ (by omega)).2) hs
end
def JI (g : Heap) (L : Addr) (m : Str → Option Value) (news : List (Addr × Obj)) (s : Shared) (v : Value) (s' : Shared) : Prop :=
  ∃ ax vs ns k h tk, v = .ref ax ∧ s' = { s with heap := h, toks := tk } ∧ Fr g L h m ∧ News g L h ((ax, W.listOf vs.toArray k) :: news) ∧ IntsAre vs ns
theorem ji_of {g h' : Heap} {L ax : Addr} {m : Str → Option Value} {news all : List (Addr × Obj)} {s : Shared} {vs : List Value} {ns : List Int} {k tk : Nat} (F : Fr g L h' m) (N : News g L h' all) (hm : (ax, W.listOf vs.toArray k) ∈ all) (sub : ∀ p ∈ news, p ∈ all) (hI : IntsAre vs ns) :
    JI g L m news s (.ref ax) { s with heap := h', toks := tk } :=
  ⟨ax, vs, ns, k, h', tk, rfl, rfl, F, fun p hp => by
    rcases List.mem_cons.mp hp with rfl | hp
    · exact N _ hm
    · exact N _ (sub p hp), hI⟩
theorem join_ints {M : Model} {A : Around} {t : Sem Value} {Q : Value → Shared → Prop} {E : Value → Shared → Prop} {s : Shared} {g : Heap} {L : Addr} {m : Str → Option Value} {news : List (Addr × Obj)} (_F : Fr g L s.heap m) (_N : News g L s.heap news)
    (h1 : wpAny M A t (JI g L m news s) E s) (h2 : ∀ ax vs ns k h tk, Fr g L h m → News g L h ((ax, W.listOf vs.toArray k) :: news) → IntsAre vs ns → Q (.ref ax) { s with heap := h, toks := tk }) : wpAny M A t Q E s :=
  wpAny_mono h1 (fun v s' ⟨ax, vs, ns, k, h, tk, e1, e2, F, N, I⟩ => by subst e1; subst e2; exact h2 ax vs ns k h tk F N I) fun _ _ e => e
theorem day_ok (a b c : Int) : DateOk (1980 + a.fmod 128) (1 + b.fmod 12) (1 + c.fmod 28) := by
  rw [fm a (by decide : (0 : Int) ≤ 128), fm b (by decide : (0 : Int) ≤ 12), fm c (by decide : (0 : Int) ≤ 28)]
  have hd : ∀ n : Fin 13, 1 ≤ n.1 → 28 ≤ tab ((n.1 : Nat) : Int) := by decide
  obtain ⟨k, hk⟩ := Int.eq_ofNat_of_zero_le (by omega : 0 ≤ 1 + b % 12)
  have ht : 28 ≤ tab (1 + b % 12) := by rw [hk]; exact hd ⟨k, by omega⟩ (by show 1 ≤ k; omega)
  have hl : 28 ≤ dlen (1980 + a % 128) (1 + b % 12) := by unfold dlen; split <;> omega
  exact ⟨by omega, by omega, by omega, by omega, by omega, by omega⟩
theorem last_ok {y m d : Int} (h : DateOk y m d) : DateOk y m (dayN y (m + 1) - dayN y m) := by
  obtain ⟨w1, w2, w3, w4, w5, w6⟩ := h
  rw [days_len w3 w4]
  exact ⟨w1, w2, w3, w4, Int.le_trans w5 w6, Int.le_refl _⟩
theorem y_lo {y : Int} (h : 1980 ≤ y) : 0 ≤ y := Int.le_trans (by decide) h
theorem y_hi {y : Int} (h : y ≤ 2107) : y ≤ 10000 := Int.le_trans h (by decide)
theorem m_lo {m : Int} (h : 1 ≤ m) : 1 ≤ m + 1 := Int.le_trans h (by omega)
theorem m_hi {m : Int} (h : m ≤ 12) : m ≤ 13 := Int.le_trans h (by decide)
theorem m_hi1 {m : Int} (h : m ≤ 12) : m + 1 ≤ 13 := by omega
/-- a day and a time of the list are forgotten but for what they are -/
theorem day6 {g h : Heap} {L D : Addr} {a b c x y z : Int} {t0 t1 t2 t3 t4 t5 : Tok} {n : Nat} {rest : List (Addr × Obj)}
    (N : News g L h ((D, W.listOf #[.int (1980 + a.fmod 128) t0, .int (1 + b.fmod 12) t1, .int (1 + c.fmod 28) t2, .int (x.fmod 24) t3, .int (y.fmod 60) t4, .int (z.fmod 60) t5] n) :: rest)) :
    ∃ (w0 w1 w2 w3 w4 w5 : Int) (u0 u1 u2 u3 u4 u5 : Tok), 1980 ≤ w0 ∧ w0 ≤ 2107 ∧ 1 ≤ w1 ∧ w1 ≤ 12 ∧ DateOk w0 w1 w2 ∧ TimeOk w3 w4 w5 ∧ News g L h ((D, W.listOf #[.int w0 u0, .int w1 u1, .int w2 u2, .int w3 u3, .int w4 u4, .int w5 u5] n) :: rest) := by
  have k := day_ok a b c
  have k2 : 1980 ≤ 1980 + a.fmod 128 ∧ 1980 + a.fmod 128 ≤ 2107 := by rw [fm a (by decide)]; omega
  exact ⟨_, _, _, _, _, _, _, _, _, _, _, _, k2.1, k2.2, k.2.2.1, k.2.2.2.1, k, fb_time _ _ _, N⟩
end Mine
end
section
open PySem
namespace Mine
theorem bytesE : byteArr (List.map Int.ofNat (Str.ofString "").cps.toList) = #[] := by decide +kernel
theorem bytesW : byteArr (List.map Int.ofNat (Str.ofString "WORDS").cps.toList) = #[87, 79, 82, 68, 83] := by decide +kernel
theorem bytesM : byteArr (List.map Int.ofNat (Str.ofString "MOMENT").cps.toList) = #[77, 79, 77, 69, 78, 84] := by decide +kernel
theorem bytesPW : byteArr (List.map Int.ofNat (Str.ofString "WORDS      ").cps.toList) = #[87, 79, 82, 68, 83, 32, 32, 32, 32, 32, 32] := by decide +kernel
theorem bytesPM : byteArr (List.map Int.ofNat (Str.ofString "MOMENT     ").cps.toList) = #[77, 79, 77, 69, 78, 84, 32, 32, 32, 32, 32] := by decide +kernel
end Mine
end
open PySem PySem.W PyProof.Rows
set_option Elab.async false
set_option linter.unusedVariables false
set_option linter.unusedSimpArgs false
set_option compiler.extract_closed false
set_option maxRecDepth 100000
set_option maxHeartbeats 0
namespace Mine
noncomputable abbrev LoOf (v : Program) : List Str := looseW v [Str.ofString "DosDateTime", Str.ofString "PyFATException", Str.ofString "errno", Str.ofString "EightDotThree", Str.ofString "FATDirectoryEntry", Str.ofString "FATLongDirectoryEntry"] ++ List.map (fun x => x.name) (recsOf v) ++ List.map (fun x => x.fst) (litsOf v) ++ List.map (fun x => x.name) (clssOf v (looseW v [Str.ofString "DosDateTime", Str.ofString "PyFATException", Str.ofString "errno", Str.ofString "EightDotThree", Str.ofString "FATDirectoryEntry", Str.ofString "FATLongDirectoryEntry"]))
namespace Lt
noncomputable def names : Mine.Pk PySem.Challenge.rw_iw0015_01.row.Holds := by
  apply Mine.Pk.mk
  intro REST G0
  refine (fun (_ : True) => ?_) ?hl
  rotate_left
  exact trivial
  rotate_left
  show Mine.HeldBy (And.intro REST G0) PySem.Challenge.rw_iw0015_01.row
  k_head; (case hw => w_witness2)
  refine Mine.keep_of ?_
  exact REST.get
end Lt
end Mine
theorem Mine.main.tw10044588960856096794 : True := trivial
theorem Mine.main.tw10047389527955405517 : True := trivial
theorem Mine.main.tw10063615490667107986 : True := trivial
theorem Mine.main.tw10092017014551392330 : True := trivial
theorem Mine.main.tw10094358506670053839 : True := trivial
theorem Mine.main.tw10101900104965146230 : True := trivial
theorem Mine.main.tw10114013102757674387 : True := trivial
theorem Mine.main.tw10123989817122485451 : True := trivial
theorem Mine.main.tw10140136200207757160 : True := trivial
theorem Mine.main.tw10149618387772673413 : True := trivial
theorem Mine.main.tw10159738436595150677 : True := trivial
theorem Mine.main.tw10169072693733980587 : True := trivial
theorem Mine.main.tw10177057350305019805 : True := trivial
theorem Mine.main.tw10186938856007831324 : True := trivial
theorem Mine.main.tw10199874654664476236 : True := trivial
theorem Mine.main.tw10201359505653846880 : True := trivial
theorem Mine.main.tw10204856939554784155 : True := trivial
theorem Mine.main.tw10210597933619972095 : True := trivial
theorem Mine.main.tw10225356144477167704 : True := trivial
theorem Mine.main.tw10231336680788121439 : True := trivial
theorem Mine.main.tw10234815189450012239 : True := trivial
theorem Mine.main.tw10242657825688863476 : True := trivial
theorem Mine.main.tw10252420194574924718 : True := trivial
theorem Mine.main.tw10255180020182114038 : True := trivial
theorem Mine.main.tw1027651156746619712 : True := trivial
theorem Mine.main.tw10283388844273144081 : True := trivial
theorem Mine.main.tw10298723112805639129 : True := trivial
theorem Mine.main.tw10334261112615635914 : True := trivial
theorem Mine.main.tw10363585996791799541 : True := trivial
theorem Mine.main.tw10367043833027533253 : True := trivial
theorem Mine.main.tw10391951854915411234 : True := trivial
theorem Mine.main.tw1041082287264499562 : True := trivial
theorem Mine.main.tw10418042200766032776 : True := trivial
theorem Mine.main.tw10435530978670571659 : True := trivial
theorem Mine.main.tw104360540948158410 : True := trivial
theorem Mine.main.tw10450603732522932521 : True := trivial
theorem Mine.main.tw10453263994017694363 : True := trivial
theorem Mine.main.tw10455743928339290457 : True := trivial
theorem Mine.main.tw10457739000823666423 : True := trivial
theorem Mine.main.tw10463206416058312583 : True := trivial
theorem Mine.main.tw1046443281632482020 : True := trivial
theorem Mine.main.tw10474107093616326617 : True := trivial
theorem Mine.main.tw10483362588635715401 : True := trivial
theorem Mine.main.tw10542905334921785414 : True := trivial
theorem Mine.main.tw1054321117371714560 : True := trivial
theorem Mine.main.tw10543740743216835930 : True := trivial
theorem Mine.main.tw10548918766592180815 : True := trivial
theorem Mine.main.tw10554957952762445534 : True := trivial
theorem Mine.main.tw10564528347858357063 : True := trivial
theorem Mine.main.tw10567084921333377638 : True := trivial
theorem Mine.main.tw10609540516017602915 : True := trivial
theorem Mine.main.tw10625486282989778954 : True := trivial
theorem Mine.main.tw10642606787283503386 : True := trivial
theorem Mine.main.tw10652611922669240339 : True := trivial
theorem Mine.main.tw10652863235454686790 : True := trivial
theorem Mine.main.tw10663580350406149668 : True := trivial
theorem Mine.main.tw10665089971535097683 : True := trivial
theorem Mine.main.tw10665469846841522134 : True := trivial
theorem Mine.main.tw10669944970481658594 : True := trivial
theorem Mine.main.tw10696097060367621018 : True := trivial
theorem Mine.main.tw10707853282979444102 : True := trivial
theorem Mine.main.tw10717781254789130011 : True := trivial
theorem Mine.main.tw10733187975300939785 : True := trivial
theorem Mine.main.tw10750994468655217958 : True := trivial
theorem Mine.main.tw1075715825243056693 : True := trivial
theorem Mine.main.tw10813080517026676716 : True := trivial
theorem Mine.main.tw10821422270917381399 : True := trivial
theorem Mine.main.tw10825349956297869744 : True := trivial
theorem Mine.main.tw10825838108423173272 : True := trivial
theorem Mine.main.tw1084220662915027778 : True := trivial
theorem Mine.main.tw10864377008497418100 : True := trivial
theorem Mine.main.tw10876229203375891673 : True := trivial
theorem Mine.main.tw10876375607700338302 : True := trivial
theorem Mine.main.tw10877679251791092727 : True := trivial
theorem Mine.main.tw10896356407431480244 : True := trivial
theorem Mine.main.tw10924716458440934090 : True := trivial
theorem Mine.main.tw1092785777240315536 : True := trivial
theorem Mine.main.tw10953687544409504101 : True := trivial
theorem Mine.main.tw1098248734344127483 : True := trivial
theorem Mine.main.tw10985888656933367436 : True := trivial
theorem Mine.main.tw10987386120367425466 : True := trivial
theorem Mine.main.tw10992214633131536827 : True := trivial
theorem Mine.main.tw1099256609624015869 : True := trivial
theorem Mine.main.tw11001617756164336837 : True := trivial
theorem Mine.main.tw11003572833241299968 : True := trivial
theorem Mine.main.tw11019096307435631222 : True := trivial
theorem Mine.main.tw11020365191643786025 : True := trivial
theorem Mine.main.tw11041547156204584376 : True := trivial
theorem Mine.main.tw11041858737867550897 : True := trivial
theorem Mine.main.tw11049269918873537771 : True := trivial
theorem Mine.main.tw11086099901593105684 : True := trivial
theorem Mine.main.tw11092141859048813250 : True := trivial
theorem Mine.main.tw11101190512080308003 : True := trivial
theorem Mine.main.tw11120327062377616369 : True := trivial
theorem Mine.main.tw11125538497796368324 : True := trivial
theorem Mine.main.tw11129844816282181526 : True := trivial
theorem Mine.main.tw11135027115929721415 : True := trivial
theorem Mine.main.tw11156056980113079860 : True := trivial
theorem Mine.main.tw1118068078248606362 : True := trivial
theorem Mine.main.tw11181722664286889309 : True := trivial
theorem Mine.main.tw11183452524601008856 : True := trivial
theorem Mine.main.tw11218778669853930896 : True := trivial
theorem Mine.main.tw11221353774195762014 : True := trivial
theorem Mine.main.tw11239335112260394413 : True := trivial
theorem Mine.main.tw11244112418865573338 : True := trivial
theorem Mine.main.tw11251407683458634364 : True := trivial
theorem Mine.main.tw11261727412033496967 : True := trivial
theorem Mine.main.tw11273777480241942364 : True := trivial
theorem Mine.main.tw1130211791997205004 : True := trivial
theorem Mine.main.tw11311155076762098589 : True := trivial
theorem Mine.main.tw11332626419695707122 : True := trivial
theorem Mine.main.tw11349898740250378076 : True := trivial
theorem Mine.main.tw11374851513655246148 : True := trivial
theorem Mine.main.tw11388154006635350966 : True := trivial
theorem Mine.main.tw11390293659975261258 : True := trivial
theorem Mine.main.tw11399646045708457374 : True := trivial
theorem Mine.main.tw11403851563620829512 : True := trivial
theorem Mine.main.tw11403970630465759474 : True := trivial
theorem Mine.main.tw11405101455947879731 : True := trivial
theorem Mine.main.tw11409991511011244131 : True := trivial
theorem Mine.main.tw11410963132546700228 : True := trivial
theorem Mine.main.tw1142173933681417890 : True := trivial
theorem Mine.main.tw11461230924637031220 : True := trivial
theorem Mine.main.tw11463369355524808266 : True := trivial
theorem Mine.main.tw11476092923266045095 : True := trivial
theorem Mine.main.tw11487549891475536569 : True := trivial
theorem Mine.main.tw11490900464029743698 : True := trivial
theorem Mine.main.tw11501822485730972192 : True := trivial
theorem Mine.main.tw1150287232629052791 : True := trivial
theorem Mine.main.tw11531331273489700057 : True := trivial
theorem Mine.main.tw11544348965984651327 : True := trivial
theorem Mine.main.tw11548542833958708988 : True := trivial
theorem Mine.main.tw11554813239044494598 : True := trivial
theorem Mine.main.tw1156462466702112376 : True := trivial
theorem Mine.main.tw11564669704856271084 : True := trivial
theorem Mine.main.tw1157997071576566072 : True := trivial
theorem Mine.main.tw11595355409239048105 : True := trivial
theorem Mine.main.tw11608591588782457225 : True := trivial
theorem Mine.main.tw11614107205274993552 : True := trivial
theorem Mine.main.tw11614346279706655073 : True := trivial
theorem Mine.main.tw11646826074482590764 : True := trivial
theorem Mine.main.tw11670399090076514202 : True := trivial
theorem Mine.main.tw11676816360460091147 : True := trivial
theorem Mine.main.tw11692516046256081784 : True := trivial
theorem Mine.main.tw11707585526205722907 : True := trivial
theorem Mine.main.tw11710404883906591787 : True := trivial
theorem Mine.main.tw11712081513822626495 : True := trivial
theorem Mine.main.tw11716418206903941319 : True := trivial
theorem Mine.main.tw11725999154989108132 : True := trivial
theorem Mine.main.tw11728771520666845194 : True := trivial
theorem Mine.main.tw11735423636902730196 : True := trivial
theorem Mine.main.tw11752208632293872130 : True := trivial
theorem Mine.main.tw11774690029378154688 : True := trivial
theorem Mine.main.tw11785714552879321826 : True := trivial
theorem Mine.main.tw1178595665728414349 : True := trivial
theorem Mine.main.tw11789403723227289746 : True := trivial
theorem Mine.main.tw11814867827210800679 : True := trivial
theorem Mine.main.tw11815829001073249272 : True := trivial
theorem Mine.main.tw11857135199678951331 : True := trivial
theorem Mine.main.tw11867459810104258433 : True := trivial
theorem Mine.main.tw11903146300924635186 : True := trivial
theorem Mine.main.tw11904941031934877020 : True := trivial
theorem Mine.main.tw1191263595243908205 : True := trivial
theorem Mine.main.tw11923525502935528744 : True := trivial
theorem Mine.main.tw11933201153402537488 : True := trivial
theorem Mine.main.tw11962923498438245051 : True := trivial
theorem Mine.main.tw11967333016625521393 : True := trivial
theorem Mine.main.tw1198661942849946583 : True := trivial
theorem Mine.main.tw11987853993630220354 : True := trivial
theorem Mine.main.tw12006131722545458140 : True := trivial
theorem Mine.main.tw12014785543569010823 : True := trivial
theorem Mine.main.tw12023146180999706270 : True := trivial
theorem Mine.main.tw12027323910402764344 : True := trivial
theorem Mine.main.tw12057704586751987240 : True := trivial
theorem Mine.main.tw12077450504624328385 : True := trivial
theorem Mine.main.tw12093647306153771053 : True := trivial
theorem Mine.main.tw12106859168716417752 : True := trivial
theorem Mine.main.tw12130321265151566525 : True := trivial
theorem Mine.main.tw12134908399292295839 : True := trivial
theorem Mine.main.tw12139096438432415106 : True := trivial
theorem Mine.main.tw12142246244290616864 : True := trivial
theorem Mine.main.tw1216228984421328439 : True := trivial
theorem Mine.main.tw12170992721606120685 : True := trivial
theorem Mine.main.tw12205347405646519318 : True := trivial
theorem Mine.main.tw12222963475772708484 : True := trivial
theorem Mine.main.tw12245857906982125569 : True := trivial
theorem Mine.main.tw12252054271945606052 : True := trivial
theorem Mine.main.tw12255313618399501761 : True := trivial
theorem Mine.main.tw12273490649430754879 : True := trivial
theorem Mine.main.tw12298629886278197574 : True := trivial
theorem Mine.main.tw12304082900475741265 : True := trivial
theorem Mine.main.tw12324921354453157484 : True := trivial
theorem Mine.main.tw12332102779922042578 : True := trivial
theorem Mine.main.tw12338497608069007261 : True := trivial
theorem Mine.main.tw12343854547171428336 : True := trivial
theorem Mine.main.tw12346658559823942425 : True := trivial
theorem Mine.main.tw12361340156312767134 : True := trivial
theorem Mine.main.tw1236483940969888574 : True := trivial
theorem Mine.main.tw1242282695825638017 : True := trivial
theorem Mine.main.tw12429675835336498981 : True := trivial
theorem Mine.main.tw12431561837914552411 : True := trivial
theorem Mine.main.tw12431731261707249289 : True := trivial
theorem Mine.main.tw12450111651097656602 : True := trivial
theorem Mine.main.tw12455012482086183272 : True := trivial
theorem Mine.main.tw12463224122652932544 : True := trivial
theorem Mine.main.tw12470004780890421668 : True := trivial
theorem Mine.main.tw12483276189755474720 : True := trivial
theorem Mine.main.tw12487968142940073223 : True := trivial
theorem Mine.main.tw12518504611687188807 : True := trivial
theorem Mine.main.tw12519306246395310219 : True := trivial
theorem Mine.main.tw1253437644075932092 : True := trivial
theorem Mine.main.tw12543713266681445118 : True := trivial
theorem Mine.main.tw1255815211270559930 : True := trivial
theorem Mine.main.tw12564604832814323664 : True := trivial
theorem Mine.main.tw12570134572688502250 : True := trivial
theorem Mine.main.tw12574995316784493246 : True := trivial
theorem Mine.main.tw12582173479537470380 : True := trivial
theorem Mine.main.tw12590340796369385619 : True := trivial
theorem Mine.main.tw1259162542039736189 : True := trivial
theorem Mine.main.tw12594366453804578888 : True := trivial
theorem Mine.main.tw12608185968620612914 : True := trivial
theorem Mine.main.tw1261021989165538067 : True := trivial
theorem Mine.main.tw12623159325031504133 : True := trivial
theorem Mine.main.tw12646911602827044314 : True := trivial
theorem Mine.main.tw12653679108036650311 : True := trivial
theorem Mine.main.tw12667108692942931566 : True := trivial
theorem Mine.main.tw12670839924663504800 : True := trivial
theorem Mine.main.tw12675357926760492328 : True := trivial
theorem Mine.main.tw12681957500809781501 : True := trivial
theorem Mine.main.tw12685159350667627536 : True := trivial
theorem Mine.main.tw12692632004510240207 : True := trivial
theorem Mine.main.tw1269329923203890863 : True := trivial
theorem Mine.main.tw1270039299266317192 : True := trivial
theorem Mine.main.tw12702744160499308131 : True := trivial
theorem Mine.main.tw12706235939375600548 : True := trivial
theorem Mine.main.tw12739419802310465029 : True := trivial
theorem Mine.main.tw12741544251441588921 : True := trivial
theorem Mine.main.tw12747388180105724736 : True := trivial
theorem Mine.main.tw12748397558918655664 : True := trivial
theorem Mine.main.tw12751799325998411230 : True := trivial
theorem Mine.main.tw12755441557018050348 : True := trivial
theorem Mine.main.tw1277820614484962519 : True := trivial
theorem Mine.main.tw12781232294122734214 : True := trivial
theorem Mine.main.tw12785325919471990445 : True := trivial
theorem Mine.main.tw12800608258095302798 : True := trivial
theorem Mine.main.tw12839114828313443825 : True := trivial
theorem Mine.main.tw12867379429370454646 : True := trivial
theorem Mine.main.tw12870486517592710932 : True := trivial
theorem Mine.main.tw12872379398031375081 : True := trivial
theorem Mine.main.tw12885673836220544336 : True := trivial
theorem Mine.main.tw1289389943133740499 : True := trivial
theorem Mine.main.tw12909650291622432550 : True := trivial
theorem Mine.main.tw12915833801598196605 : True := trivial
theorem Mine.main.tw12922898485456448571 : True := trivial
theorem Mine.main.tw12927740378394474205 : True := trivial
theorem Mine.main.tw12941917028564957548 : True := trivial
theorem Mine.main.tw12942913107403878096 : True := trivial
theorem Mine.main.tw12959741745000181155 : True := trivial
theorem Mine.main.tw12974819211118642341 : True := trivial
theorem Mine.main.tw12987577155417789579 : True := trivial
theorem Mine.main.tw12992176717851604617 : True := trivial
theorem Mine.main.tw1306636233014830658 : True := trivial
theorem Mine.main.tw13077236301305049449 : True := trivial
theorem Mine.main.tw13110577991587790113 : True := trivial
theorem Mine.main.tw13110970153573199417 : True := trivial
theorem Mine.main.tw13113777628852026922 : True := trivial
theorem Mine.main.tw13116522157475607773 : True := trivial
theorem Mine.main.tw13148611719377898607 : True := trivial
theorem Mine.main.tw13154001654789283132 : True := trivial
theorem Mine.main.tw13157206579259725088 : True := trivial
theorem Mine.main.tw13180746182150919023 : True := trivial
theorem Mine.main.tw13187166440333854079 : True := trivial
theorem Mine.main.tw1318968915056948652 : True := trivial
theorem Mine.main.tw13194694976546938235 : True := trivial
theorem Mine.main.tw1319676515408343850 : True := trivial
theorem Mine.main.tw13219505800766818778 : True := trivial
theorem Mine.main.tw13224007501803129859 : True := trivial
theorem Mine.main.tw13227692790652741651 : True := trivial
theorem Mine.main.tw13227784636351994527 : True := trivial
theorem Mine.main.tw13255245976751338989 : True := trivial
theorem Mine.main.tw13260870731297125680 : True := trivial
theorem Mine.main.tw13270728482189477470 : True := trivial
theorem Mine.main.tw13293747886898857621 : True := trivial
theorem Mine.main.tw13306352142949925410 : True := trivial
theorem Mine.main.tw13313126695403321540 : True := trivial
theorem Mine.main.tw13348322127785295214 : True := trivial
theorem Mine.main.tw13350764725976880583 : True := trivial
theorem Mine.main.tw13355152605343272895 : True := trivial
theorem Mine.main.tw13402765919934010277 : True := trivial
theorem Mine.main.tw13406003279186336099 : True := trivial
theorem Mine.main.tw13447304073604360266 : True := trivial
theorem Mine.main.tw13465503431842376007 : True := trivial
theorem Mine.main.tw13503263706703578961 : True := trivial
theorem Mine.main.tw13514204307011423542 : True := trivial
theorem Mine.main.tw13532707612510029741 : True := trivial
theorem Mine.main.tw13547569757486424058 : True := trivial
theorem Mine.main.tw1355085073191494161 : True := trivial
theorem Mine.main.tw13590572293223372214 : True := trivial
theorem Mine.main.tw13591255225166038476 : True := trivial
theorem Mine.main.tw13597483153833180358 : True := trivial
theorem Mine.main.tw13626721169425172152 : True := trivial
theorem Mine.main.tw13642826006792871662 : True := trivial
theorem Mine.main.tw13667920496262714385 : True := trivial
theorem Mine.main.tw13676971244355772609 : True := trivial
theorem Mine.main.tw13689083923384677848 : True := trivial
theorem Mine.main.tw13693970394777133609 : True := trivial
theorem Mine.main.tw13711685867348743795 : True := trivial
theorem Mine.main.tw13713940216889387898 : True := trivial
theorem Mine.main.tw13724616953566380437 : True := trivial
theorem Mine.main.tw1372806426800153423 : True := trivial
theorem Mine.main.tw13777938177461255882 : True := trivial
theorem Mine.main.tw13797323745857372409 : True := trivial
theorem Mine.main.tw13803360072150633466 : True := trivial
theorem Mine.main.tw13838900630717943254 : True := trivial
theorem Mine.main.tw13876859957761632879 : True := trivial
theorem Mine.main.tw13895690589372769502 : True := trivial
theorem Mine.main.tw1390771862084280389 : True := trivial
theorem Mine.main.tw13914785722749861914 : True := trivial
theorem Mine.main.tw13962693860625380366 : True := trivial
theorem Mine.main.tw13965128551521907918 : True := trivial
theorem Mine.main.tw13972245371655741198 : True := trivial
theorem Mine.main.tw13974046611088194958 : True := trivial
theorem Mine.main.tw13978478705568000493 : True := trivial
theorem Mine.main.tw13980345723018547825 : True := trivial
theorem Mine.main.tw13989496423458381343 : True := trivial
theorem Mine.main.tw13995172100960836882 : True := trivial
theorem Mine.main.tw14011416340940902608 : True := trivial
theorem Mine.main.tw14020873708864708748 : True := trivial
theorem Mine.main.tw14027531716089632829 : True := trivial
theorem Mine.main.tw14027650596787315314 : True := trivial
theorem Mine.main.tw14060465935940456498 : True := trivial
theorem Mine.main.tw14061640607465278742 : True := trivial
theorem Mine.main.tw14064073609400967072 : True := trivial
theorem Mine.main.tw14080665800827857628 : True := trivial
theorem Mine.main.tw14097447854668400296 : True := trivial
theorem Mine.main.tw1409966394225722968 : True := trivial
theorem Mine.main.tw14106445559736802775 : True := trivial
theorem Mine.main.tw14136325212780177784 : True := trivial
theorem Mine.main.tw1415428593365352553 : True := trivial
theorem Mine.main.tw14161005256144132680 : True := trivial
theorem Mine.main.tw14161465996007527954 : True := trivial
theorem Mine.main.tw14168887731352723522 : True := trivial
theorem Mine.main.tw14216407083858561409 : True := trivial
theorem Mine.main.tw14235155234550121937 : True := trivial
theorem Mine.main.tw14286279103370969706 : True := trivial
theorem Mine.main.tw1429040668314091153 : True := trivial
theorem Mine.main.tw14327529596952217943 : True := trivial
theorem Mine.main.tw14336716466608126219 : True := trivial
theorem Mine.main.tw14364048958407549093 : True := trivial
theorem Mine.main.tw14368271195830560734 : True := trivial
theorem Mine.main.tw14377180257169084997 : True := trivial
theorem Mine.main.tw14377536511252160716 : True := trivial
theorem Mine.main.tw14390754486103292620 : True := trivial
theorem Mine.main.tw1439166485080882 : True := trivial
theorem Mine.main.tw14406990849044604362 : True := trivial
theorem Mine.main.tw14439473939278146460 : True := trivial
theorem Mine.main.tw14443092014599818573 : True := trivial
theorem Mine.main.tw14489535830319231195 : True := trivial
theorem Mine.main.tw14492832472218066102 : True := trivial
theorem Mine.main.tw14504180641510445567 : True := trivial
theorem Mine.main.tw14510055921401542917 : True := trivial
theorem Mine.main.tw14513571923725367585 : True := trivial
theorem Mine.main.tw1453356044741674121 : True := trivial
theorem Mine.main.tw14535484193269619989 : True := trivial
theorem Mine.main.tw14539993770535171780 : True := trivial
theorem Mine.main.tw1454224541498743561 : True := trivial
theorem Mine.main.tw14554314840745968623 : True := trivial
theorem Mine.main.tw14562738103837258888 : True := trivial
theorem Mine.main.tw14635473669698735251 : True := trivial
theorem Mine.main.tw14636892021812066514 : True := trivial
theorem Mine.main.tw14637806741061077295 : True := trivial
theorem Mine.main.tw14640416626631428029 : True := trivial
theorem Mine.main.tw14646587721710459877 : True := trivial
theorem Mine.main.tw14662554035588321541 : True := trivial
theorem Mine.main.tw14666387041718499266 : True := trivial
theorem Mine.main.tw14672674291997333471 : True := trivial
theorem Mine.main.tw14698241182937546978 : True := trivial
theorem Mine.main.tw1469836325065767749 : True := trivial
theorem Mine.main.tw14713023043418418522 : True := trivial
theorem Mine.main.tw14721343552236136636 : True := trivial
theorem Mine.main.tw14722489848711283861 : True := trivial
theorem Mine.main.tw14759895335926876869 : True := trivial
theorem Mine.main.tw14771111431291430275 : True := trivial
theorem Mine.main.tw14788915703135433725 : True := trivial
theorem Mine.main.tw14793117695081215449 : True := trivial
theorem Mine.main.tw14798791472264738832 : True := trivial
theorem Mine.main.tw14805756002866571830 : True := trivial
theorem Mine.main.tw14806125269305119590 : True := trivial
theorem Mine.main.tw14814594519894181452 : True := trivial
theorem Mine.main.tw14849204138880929251 : True := trivial
theorem Mine.main.tw14859100970857779836 : True := trivial
theorem Mine.main.tw1486339892855113045 : True := trivial
theorem Mine.main.tw14864641218109852296 : True := trivial
theorem Mine.main.tw14907226015203709474 : True := trivial
theorem Mine.main.tw14909365282108701170 : True := trivial
theorem Mine.main.tw14925635105145352654 : True := trivial
theorem Mine.main.tw14962632401376961426 : True := trivial
theorem Mine.main.tw1496695287857109588 : True := trivial
theorem Mine.main.tw14992222465124788362 : True := trivial
theorem Mine.main.tw15017983477296125989 : True := trivial
theorem Mine.main.tw15022946984557111684 : True := trivial
theorem Mine.main.tw15023316991559800185 : True := trivial
theorem Mine.main.tw1504049600530537962 : True := trivial
theorem Mine.main.tw15042623453342804718 : True := trivial
theorem Mine.main.tw15059693217772790739 : True := trivial
theorem Mine.main.tw15060185592220127646 : True := trivial
theorem Mine.main.tw15062679425460387418 : True := trivial
theorem Mine.main.tw15079240505294077160 : True := trivial
theorem Mine.main.tw15087427406127887449 : True := trivial
theorem Mine.main.tw15097543051748444868 : True := trivial
theorem Mine.main.tw15098031235356848795 : True := trivial
theorem Mine.main.tw15109750227778091905 : True := trivial
theorem Mine.main.tw15131278010643852716 : True := trivial
theorem Mine.main.tw15136431859952498927 : True := trivial
theorem Mine.main.tw15140838672463199983 : True := trivial
theorem Mine.main.tw1519927702969063271 : True := trivial
theorem Mine.main.tw1519992759497675636 : True := trivial
theorem Mine.main.tw15225127925928830808 : True := trivial
theorem Mine.main.tw15244097889725654702 : True := trivial
theorem Mine.main.tw15270170921892066516 : True := trivial
theorem Mine.main.tw15277975159832343749 : True := trivial
theorem Mine.main.tw15282798724139172088 : True := trivial
theorem Mine.main.tw15303317825217679618 : True := trivial
theorem Mine.main.tw15312040371321221727 : True := trivial
theorem Mine.main.tw15312394840280087653 : True := trivial
theorem Mine.main.tw15326346284793698685 : True := trivial
theorem Mine.main.tw15342904991969174519 : True := trivial
theorem Mine.main.tw15350898050860989542 : True := trivial
theorem Mine.main.tw15356762974548107741 : True := trivial
theorem Mine.main.tw15365013842991253249 : True := trivial
theorem Mine.main.tw15387884906608193903 : True := trivial
theorem Mine.main.tw15410482203810522393 : True := trivial
theorem Mine.main.tw15425874342098770709 : True := trivial
theorem Mine.main.tw15438212644395081984 : True := trivial
theorem Mine.main.tw15445229340043853549 : True := trivial
theorem Mine.main.tw1545906260438175962 : True := trivial
theorem Mine.main.tw15461212566085484399 : True := trivial
theorem Mine.main.tw15465920861327815835 : True := trivial
theorem Mine.main.tw15467891735981029475 : True := trivial
theorem Mine.main.tw1547412790115909755 : True := trivial
theorem Mine.main.tw1548279923187021627 : True := trivial
theorem Mine.main.tw15485851114877660061 : True := trivial
theorem Mine.main.tw15491723280356408159 : True := trivial
theorem Mine.main.tw15510692781650021527 : True := trivial
theorem Mine.main.tw15514936471743626214 : True := trivial
theorem Mine.main.tw1552421926411342777 : True := trivial
theorem Mine.main.tw15540984915698410164 : True := trivial
theorem Mine.main.tw15554039934745177238 : True := trivial
theorem Mine.main.tw15558288988949320067 : True := trivial
theorem Mine.main.tw15565075772751903193 : True := trivial
theorem Mine.main.tw15579395750891953841 : True := trivial
theorem Mine.main.tw15580989882048331800 : True := trivial
theorem Mine.main.tw15589955886551607785 : True := trivial
theorem Mine.main.tw15595112118272840620 : True := trivial
theorem Mine.main.tw15606653302220566414 : True := trivial
theorem Mine.main.tw15608450976537380609 : True := trivial
theorem Mine.main.tw15616401959046598769 : True := trivial
theorem Mine.main.tw15624239662980076321 : True := trivial
theorem Mine.main.tw15642941266545998023 : True := trivial
theorem Mine.main.tw15643365686152983790 : True := trivial
theorem Mine.main.tw15649996292582860464 : True := trivial
theorem Mine.main.tw15670109119070698982 : True := trivial
theorem Mine.main.tw15672986146971166658 : True := trivial
theorem Mine.main.tw15684375888932747349 : True := trivial
theorem Mine.main.tw15734200111481486640 : True := trivial
theorem Mine.main.tw15734660467963936456 : True := trivial
theorem Mine.main.tw15737690656516749961 : True := trivial
theorem Mine.main.tw15768048840197415361 : True := trivial
theorem Mine.main.tw15803610866087392283 : True := trivial
theorem Mine.main.tw15806524323241146399 : True := trivial
theorem Mine.main.tw15810667371194948217 : True := trivial
theorem Mine.main.tw1587290215689348708 : True := trivial
theorem Mine.main.tw1590763530083325563 : True := trivial
theorem Mine.main.tw15928290008803537013 : True := trivial
theorem Mine.main.tw15949526494057022110 : True := trivial
theorem Mine.main.tw15950006927108054178 : True := trivial
theorem Mine.main.tw15955573374722617477 : True := trivial
theorem Mine.main.tw15957597259013190341 : True := trivial
theorem Mine.main.tw15970538086172389420 : True := trivial
theorem Mine.main.tw15984706205718930553 : True := trivial
theorem Mine.main.tw16008457594558532635 : True := trivial
theorem Mine.main.tw16022572192331126682 : True := trivial
theorem Mine.main.tw16026485685270457870 : True := trivial
theorem Mine.main.tw16026775910206950810 : True := trivial
theorem Mine.main.tw16033097090804400913 : True := trivial
theorem Mine.main.tw16035907590883218939 : True := trivial
theorem Mine.main.tw16046730324260685337 : True := trivial
theorem Mine.main.tw16049902774474827687 : True := trivial
theorem Mine.main.tw16057503054469045564 : True := trivial
theorem Mine.main.tw1606137496264982490 : True := trivial
theorem Mine.main.tw16097269412956081036 : True := trivial
theorem Mine.main.tw16102231251864390963 : True := trivial
theorem Mine.main.tw1610520696219057239 : True := trivial
theorem Mine.main.tw16128220689672181975 : True := trivial
theorem Mine.main.tw16135426469972691074 : True := trivial
theorem Mine.main.tw16136984950599521427 : True := trivial
theorem Mine.main.tw1615045767204293396 : True := trivial
theorem Mine.main.tw16153351446899991344 : True := trivial
theorem Mine.main.tw16153842264607907944 : True := trivial
theorem Mine.main.tw1615956725737779560 : True := trivial
theorem Mine.main.tw16187894506366716058 : True := trivial
theorem Mine.main.tw161903638078081290 : True := trivial
theorem Mine.main.tw16193401482309157537 : True := trivial
theorem Mine.main.tw16203622797070002922 : True := trivial
theorem Mine.main.tw16218864148678617972 : True := trivial
theorem Mine.main.tw16251939892948500945 : True := trivial
theorem Mine.main.tw16274502184877008141 : True := trivial
theorem Mine.main.tw1628013610222277130 : True := trivial
theorem Mine.main.tw16292202817602668162 : True := trivial
theorem Mine.main.tw16304157974115477746 : True := trivial
theorem Mine.main.tw16305672181175384284 : True := trivial
theorem Mine.main.tw16320215318167395912 : True := trivial
theorem Mine.main.tw1632041292262086317 : True := trivial
theorem Mine.main.tw16320729459185622934 : True := trivial
theorem Mine.main.tw16338599768312175441 : True := trivial
theorem Mine.main.tw16355746345580011080 : True := trivial
theorem Mine.main.tw16356685582667847594 : True := trivial
theorem Mine.main.tw16357356043003861740 : True := trivial
theorem Mine.main.tw16396084126727719574 : True := trivial
theorem Mine.main.tw16411370214107742406 : True := trivial
theorem Mine.main.tw16424990018577422225 : True := trivial
theorem Mine.main.tw16451033083921036709 : True := trivial
theorem Mine.main.tw16452447596832230105 : True := trivial
theorem Mine.main.tw1645717771770832407 : True := trivial
theorem Mine.main.tw16480584520131690045 : True := trivial
theorem Mine.main.tw16501172079758305675 : True := trivial
theorem Mine.main.tw16508919721030705984 : True := trivial
theorem Mine.main.tw16519101796099990279 : True := trivial
theorem Mine.main.tw16544489699163171333 : True := trivial
theorem Mine.main.tw16551855485269240956 : True := trivial
theorem Mine.main.tw16572128252103988241 : True := trivial
theorem Mine.main.tw16629339528299215175 : True := trivial
theorem Mine.main.tw16641786646906312760 : True := trivial
theorem Mine.main.tw16651728564920304373 : True := trivial
theorem Mine.main.tw16656740534632174751 : True := trivial
theorem Mine.main.tw16669030903016767061 : True := trivial
theorem Mine.main.tw16676564476587882173 : True := trivial
theorem Mine.main.tw16689149305811164139 : True := trivial
theorem Mine.main.tw16710147508514199302 : True := trivial
theorem Mine.main.tw16721930046160240684 : True := trivial
theorem Mine.main.tw16723884430069596700 : True := trivial
theorem Mine.main.tw16757190730947197508 : True := trivial
theorem Mine.main.tw16765925921980633802 : True := trivial
theorem Mine.main.tw1677766988990989824 : True := trivial
theorem Mine.main.tw16778611742570070204 : True := trivial
theorem Mine.main.tw16784772322866675431 : True := trivial
theorem Mine.main.tw1678875084529416142 : True := trivial
theorem Mine.main.tw16790050636404226231 : True := trivial
theorem Mine.main.tw16798207577519904205 : True := trivial
theorem Mine.main.tw16798622893749714585 : True := trivial
theorem Mine.main.tw16806246253224384389 : True := trivial
theorem Mine.main.tw16817993663026736274 : True := trivial
theorem Mine.main.tw16819838333489098493 : True := trivial
theorem Mine.main.tw16826212616301561204 : True := trivial
theorem Mine.main.tw16832360635688203351 : True := trivial
theorem Mine.main.tw16863156106696720372 : True := trivial
theorem Mine.main.tw16877947373546393871 : True := trivial
theorem Mine.main.tw16891041157754790011 : True := trivial
theorem Mine.main.tw16922381011570985944 : True := trivial
theorem Mine.main.tw16923884221124529275 : True := trivial
theorem Mine.main.tw16950194794029067938 : True := trivial
theorem Mine.main.tw16952715711813285254 : True := trivial
theorem Mine.main.tw16959884160788844718 : True := trivial
theorem Mine.main.tw16965079339398995527 : True := trivial
theorem Mine.main.tw169701792822576828 : True := trivial
theorem Mine.main.tw16989488325979979065 : True := trivial
theorem Mine.main.tw17016820405989369747 : True := trivial
theorem Mine.main.tw17025424565251489684 : True := trivial
theorem Mine.main.tw17035731627637430848 : True := trivial
theorem Mine.main.tw17052023290607921161 : True := trivial
theorem Mine.main.tw17057053908230417247 : True := trivial
theorem Mine.main.tw17067035981215421688 : True := trivial
theorem Mine.main.tw1707505545463187130 : True := trivial
theorem Mine.main.tw17091655785135471103 : True := trivial
theorem Mine.main.tw17096532924672817327 : True := trivial
theorem Mine.main.tw17110241357884498264 : True := trivial
theorem Mine.main.tw17118054049896295152 : True := trivial
theorem Mine.main.tw17128291446047057950 : True := trivial
theorem Mine.main.tw17144978775634262171 : True := trivial
theorem Mine.main.tw17146568849442343683 : True := trivial
theorem Mine.main.tw17147588175821073265 : True := trivial
theorem Mine.main.tw1714950047550659301 : True := trivial
theorem Mine.main.tw17185042187573640451 : True := trivial
theorem Mine.main.tw17201416709059790184 : True := trivial
theorem Mine.main.tw17223442867436993403 : True := trivial
theorem Mine.main.tw17227442419121036007 : True := trivial
theorem Mine.main.tw17236958762192778904 : True := trivial
theorem Mine.main.tw17262041522474090127 : True := trivial
theorem Mine.main.tw17268439761433841065 : True := trivial
theorem Mine.main.tw17272174723667511238 : True := trivial
theorem Mine.main.tw17275675667316583603 : True := trivial
theorem Mine.main.tw17280665378484479262 : True := trivial
theorem Mine.main.tw17290568124846718506 : True := trivial
theorem Mine.main.tw17292155258170135553 : True := trivial
theorem Mine.main.tw17297283025540448806 : True := trivial
theorem Mine.main.tw17298271098590275757 : True := trivial
theorem Mine.main.tw17336282652733537790 : True := trivial
theorem Mine.main.tw17353955331779342651 : True := trivial
theorem Mine.main.tw17402982504261768225 : True := trivial
theorem Mine.main.tw17403364634526059139 : True := trivial
theorem Mine.main.tw17413556829735388813 : True := trivial
theorem Mine.main.tw17413806152003534235 : True := trivial
theorem Mine.main.tw17431719831054627609 : True := trivial
theorem Mine.main.tw17438294365789470252 : True := trivial
theorem Mine.main.tw17445186720391901401 : True := trivial
theorem Mine.main.tw17450470499104002142 : True := trivial
theorem Mine.main.tw17453503289922162039 : True := trivial
theorem Mine.main.tw17456035664235451855 : True := trivial
theorem Mine.main.tw17465928265306105389 : True := trivial
theorem Mine.main.tw17477492558424962760 : True := trivial
theorem Mine.main.tw17493723678399337961 : True := trivial
theorem Mine.main.tw17495560712657236704 : True := trivial
theorem Mine.main.tw17501379564835393856 : True := trivial
theorem Mine.main.tw17510229520200029679 : True := trivial
theorem Mine.main.tw17561526911342447988 : True := trivial
theorem Mine.main.tw17563168436475441343 : True := trivial
theorem Mine.main.tw17585224947871030625 : True := trivial
theorem Mine.main.tw17600866488970185278 : True := trivial
theorem Mine.main.tw17644181745481072423 : True := trivial
theorem Mine.main.tw17647351573629430322 : True := trivial
theorem Mine.main.tw17659147809683748901 : True := trivial
theorem Mine.main.tw17665120845849184447 : True := trivial
theorem Mine.main.tw17679725944135375923 : True := trivial
theorem Mine.main.tw17695171507069755227 : True := trivial
theorem Mine.main.tw17699438841360665129 : True := trivial
theorem Mine.main.tw17708487481403421675 : True := trivial
theorem Mine.main.tw17715262827843222689 : True := trivial
theorem Mine.main.tw17725498274588495791 : True := trivial
theorem Mine.main.tw17734603463515337306 : True := trivial
theorem Mine.main.tw17737603089517620647 : True := trivial
theorem Mine.main.tw17767330081159143506 : True := trivial
theorem Mine.main.tw1777545030009416734 : True := trivial
theorem Mine.main.tw1781223760143429554 : True := trivial
theorem Mine.main.tw17864028415675338326 : True := trivial
theorem Mine.main.tw17871620999419790863 : True := trivial
theorem Mine.main.tw17904854198161793398 : True := trivial
theorem Mine.main.tw17906638245316424091 : True := trivial
theorem Mine.main.tw17920292393507637884 : True := trivial
theorem Mine.main.tw17943756269633507525 : True := trivial
theorem Mine.main.tw17958375852430007124 : True := trivial
theorem Mine.main.tw17974016328880235120 : True := trivial
theorem Mine.main.tw18005423509665057918 : True := trivial
theorem Mine.main.tw1800746815547063501 : True := trivial
theorem Mine.main.tw18031918436515192882 : True := trivial
theorem Mine.main.tw18046886581883190830 : True := trivial
theorem Mine.main.tw18063282731904131703 : True := trivial
theorem Mine.main.tw18120430973489738927 : True := trivial
theorem Mine.main.tw18134284020713443437 : True := trivial
theorem Mine.main.tw18162592725011693541 : True := trivial
theorem Mine.main.tw18165044119631177899 : True := trivial
theorem Mine.main.tw18178676814319149831 : True := trivial
theorem Mine.main.tw18190005008629794160 : True := trivial
theorem Mine.main.tw18195925520682101353 : True := trivial
theorem Mine.main.tw18218335207050127959 : True := trivial
theorem Mine.main.tw18238007617527299592 : True := trivial
theorem Mine.main.tw1826329307503635854 : True := trivial
theorem Mine.main.tw18284262389922463811 : True := trivial
theorem Mine.main.tw18287795668848337631 : True := trivial
theorem Mine.main.tw18288009448212308685 : True := trivial
theorem Mine.main.tw18302796317244248524 : True := trivial
theorem Mine.main.tw18314829044154829275 : True := trivial
theorem Mine.main.tw18315214858253571532 : True := trivial
theorem Mine.main.tw18317609476662902477 : True := trivial
theorem Mine.main.tw18325589031809861271 : True := trivial
theorem Mine.main.tw18328743936084910167 : True := trivial
theorem Mine.main.tw18332899500509843999 : True := trivial
theorem Mine.main.tw18342001204779339714 : True := trivial
theorem Mine.main.tw18344032359734412310 : True := trivial
theorem Mine.main.tw18385570937342765463 : True := trivial
theorem Mine.main.tw18392154025008590481 : True := trivial
theorem Mine.main.tw18403998269306519403 : True := trivial
theorem Mine.main.tw18404139461483185187 : True := trivial
theorem Mine.main.tw18418235949754561950 : True := trivial
theorem Mine.main.tw18421580907717582127 : True := trivial
theorem Mine.main.tw18425317256667529438 : True := trivial
theorem Mine.main.tw18431692314602308842 : True := trivial
theorem Mine.main.tw18442785490491869365 : True := trivial
theorem Mine.main.tw18446094637698972617 : True := trivial
theorem Mine.main.tw1850612553970854742 : True := trivial
theorem Mine.main.tw1886080085820668685 : True := trivial
theorem Mine.main.tw1900339198761634783 : True := trivial
theorem Mine.main.tw1980160206288974728 : True := trivial
theorem Mine.main.tw2007339730380871907 : True := trivial
theorem Mine.main.tw2012372014189735793 : True := trivial
theorem Mine.main.tw2019394398466159022 : True := trivial
theorem Mine.main.tw2033968301974640842 : True := trivial
theorem Mine.main.tw2058021452347087232 : True := trivial
theorem Mine.main.tw2110754180369666209 : True := trivial
theorem Mine.main.tw2127038452521536779 : True := trivial
theorem Mine.main.tw2136821422063795447 : True := trivial
theorem Mine.main.tw2156145737304315219 : True := trivial
theorem Mine.main.tw2173562974560187446 : True := trivial
theorem Mine.main.tw2185390641529510931 : True := trivial
theorem Mine.main.tw2190695567426971638 : True := trivial
theorem Mine.main.tw2195194259037543316 : True := trivial
theorem Mine.main.tw221909299271738847 : True := trivial
theorem Mine.main.tw2225892363528398861 : True := trivial
theorem Mine.main.tw2225956059507018244 : True := trivial
theorem Mine.main.tw223528310411579522 : True := trivial
theorem Mine.main.tw2238316416991798583 : True := trivial
theorem Mine.main.tw2278972029675796859 : True := trivial
theorem Mine.main.tw2279707942289718827 : True := trivial
theorem Mine.main.tw2287093442842179507 : True := trivial
theorem Mine.main.tw2287757881348798766 : True := trivial
theorem Mine.main.tw2337230598321646361 : True := trivial
theorem Mine.main.tw2341703837736514645 : True := trivial
theorem Mine.main.tw2343935838158425641 : True := trivial
theorem Mine.main.tw234599468654550697 : True := trivial
theorem Mine.main.tw2363833142923657126 : True := trivial
theorem Mine.main.tw2373237607127697691 : True := trivial
theorem Mine.main.tw2399826469436781019 : True := trivial
theorem Mine.main.tw2402762420636078793 : True := trivial
theorem Mine.main.tw2406621943657119228 : True := trivial
theorem Mine.main.tw2428412748925179849 : True := trivial
theorem Mine.main.tw2433702464844828792 : True := trivial
theorem Mine.main.tw2442773178527959075 : True := trivial
theorem Mine.main.tw244467455267321384 : True := trivial
theorem Mine.main.tw2456247091588846565 : True := trivial
theorem Mine.main.tw2484414159333256978 : True := trivial
theorem Mine.main.tw2496676261509829067 : True := trivial
theorem Mine.main.tw2524017781993486291 : True := trivial
theorem Mine.main.tw2538046985915079169 : True := trivial
theorem Mine.main.tw2542808073141276813 : True := trivial
theorem Mine.main.tw2544328076492683441 : True := trivial
theorem Mine.main.tw2564707057010578714 : True := trivial
theorem Mine.main.tw2566753976717531306 : True := trivial
theorem Mine.main.tw2583023086579268501 : True := trivial
theorem Mine.main.tw2599750674813586877 : True := trivial
theorem Mine.main.tw2629084897520917108 : True := trivial
theorem Mine.main.tw2647654807098235363 : True := trivial
theorem Mine.main.tw2672093188730551128 : True := trivial
theorem Mine.main.tw2675658811408624930 : True := trivial
theorem Mine.main.tw2702614204127132176 : True := trivial
theorem Mine.main.tw2704602940660078815 : True := trivial
theorem Mine.main.tw270496394426124508 : True := trivial
theorem Mine.main.tw2709746457059553413 : True := trivial
theorem Mine.main.tw2714283472998740243 : True := trivial
theorem Mine.main.tw2724176850512262202 : True := trivial
theorem Mine.main.tw2729793432009153956 : True := trivial
theorem Mine.main.tw2744014450722944760 : True := trivial
theorem Mine.main.tw2750411421705246143 : True := trivial
theorem Mine.main.tw2759098988195820126 : True := trivial
theorem Mine.main.tw2794983428953441941 : True := trivial
theorem Mine.main.tw2821470743931037460 : True := trivial
theorem Mine.main.tw2847738043507502446 : True := trivial
theorem Mine.main.tw2852251193174398662 : True := trivial
theorem Mine.main.tw2855982326401850692 : True := trivial
theorem Mine.main.tw2895952525429962455 : True := trivial
theorem Mine.main.tw2900998541784483753 : True := trivial
theorem Mine.main.tw2906824675625879941 : True := trivial
theorem Mine.main.tw2921621734765799159 : True := trivial
theorem Mine.main.tw2921958311620399285 : True := trivial
theorem Mine.main.tw2923286348875671695 : True := trivial
theorem Mine.main.tw2923326968966308885 : True := trivial
theorem Mine.main.tw2965820268544440810 : True := trivial
theorem Mine.main.tw3013468682885224125 : True := trivial
theorem Mine.main.tw302440914744352476 : True := trivial
theorem Mine.main.tw3027586509356016917 : True := trivial
theorem Mine.main.tw3033261876257692807 : True := trivial
theorem Mine.main.tw3045742163950154196 : True := trivial
theorem Mine.main.tw3056878081241006185 : True := trivial
theorem Mine.main.tw3067759450344833359 : True := trivial
theorem Mine.main.tw3074828394017264462 : True := trivial
theorem Mine.main.tw308427716283879934 : True := trivial
theorem Mine.main.tw3136416535801588117 : True := trivial
theorem Mine.main.tw3137596982192898869 : True := trivial
theorem Mine.main.tw3160845607165458772 : True := trivial
theorem Mine.main.tw31828345220925962 : True := trivial
theorem Mine.main.tw3190922755287333451 : True := trivial
theorem Mine.main.tw3203809635103463919 : True := trivial
theorem Mine.main.tw3220561703981169602 : True := trivial
theorem Mine.main.tw3222223853247747169 : True := trivial
theorem Mine.main.tw3262662943086543052 : True := trivial
theorem Mine.main.tw3288582142898991060 : True := trivial
theorem Mine.main.tw3298483428156984901 : True := trivial
theorem Mine.main.tw3299218664060906527 : True := trivial
theorem Mine.main.tw330327031418712150 : True := trivial
theorem Mine.main.tw3305931106042330821 : True := trivial
theorem Mine.main.tw3314904115985164895 : True := trivial
theorem Mine.main.tw3342365933539840098 : True := trivial
theorem Mine.main.tw33456957511925785 : True := trivial
theorem Mine.main.tw3370190323706015969 : True := trivial
theorem Mine.main.tw3374421720907634814 : True := trivial
theorem Mine.main.tw3394367416137920725 : True := trivial
theorem Mine.main.tw3404965551341049163 : True := trivial
theorem Mine.main.tw341453280667917650 : True := trivial
theorem Mine.main.tw3422715526262721465 : True := trivial
theorem Mine.main.tw3454311308915712629 : True := trivial
theorem Mine.main.tw3459380146013217038 : True := trivial
theorem Mine.main.tw3464709057266567092 : True := trivial
theorem Mine.main.tw3466206800631347469 : True := trivial
theorem Mine.main.tw347982865111736646 : True := trivial
theorem Mine.main.tw3485684062173492111 : True := trivial
theorem Mine.main.tw3491332818749588091 : True := trivial
theorem Mine.main.tw3532412968194664532 : True := trivial
theorem Mine.main.tw3546150205236023746 : True := trivial
theorem Mine.main.tw3549514262204291990 : True := trivial
theorem Mine.main.tw3557749057250611081 : True := trivial
theorem Mine.main.tw3562595001068472590 : True := trivial
theorem Mine.main.tw3570300971023340979 : True := trivial
theorem Mine.main.tw3583811862363856187 : True := trivial
theorem Mine.main.tw358491910552652209 : True := trivial
theorem Mine.main.tw3604246821671477065 : True := trivial
theorem Mine.main.tw3609762217373132089 : True := trivial
theorem Mine.main.tw3613476055612923068 : True := trivial
theorem Mine.main.tw3624570545991256765 : True := trivial
theorem Mine.main.tw3626430660855392483 : True := trivial
theorem Mine.main.tw3627144658338631552 : True := trivial
theorem Mine.main.tw3635900802997115186 : True := trivial
theorem Mine.main.tw365850788961202214 : True := trivial
theorem Mine.main.tw3706830351922483016 : True := trivial
theorem Mine.main.tw3714520120236048840 : True := trivial
theorem Mine.main.tw3724484323120607773 : True := trivial
theorem Mine.main.tw372505627349444580 : True := trivial
theorem Mine.main.tw3731879374237491455 : True := trivial
theorem Mine.main.tw3748114642381145586 : True := trivial
theorem Mine.main.tw3750506576032048294 : True := trivial
theorem Mine.main.tw3779293765908593550 : True := trivial
theorem Mine.main.tw3796207824708393856 : True := trivial
theorem Mine.main.tw379899607457092286 : True := trivial
theorem Mine.main.tw3829396358689915599 : True := trivial
theorem Mine.main.tw3848698983108048278 : True := trivial
theorem Mine.main.tw3864431920445960829 : True := trivial
theorem Mine.main.tw3867218068155391060 : True := trivial
theorem Mine.main.tw3894110980201357972 : True := trivial
theorem Mine.main.tw3905226178654972811 : True := trivial
theorem Mine.main.tw3911810758690780188 : True := trivial
theorem Mine.main.tw3934531018447913466 : True := trivial
theorem Mine.main.tw3958507339218470045 : True := trivial
theorem Mine.main.tw3960113756560652017 : True := trivial
theorem Mine.main.tw3994622017586750766 : True := trivial
theorem Mine.main.tw4026173324967665524 : True := trivial
theorem Mine.main.tw4026956272090484662 : True := trivial
theorem Mine.main.tw4034048572721927537 : True := trivial
theorem Mine.main.tw4036238207498611232 : True := trivial
theorem Mine.main.tw4038153913678941442 : True := trivial
theorem Mine.main.tw4039676971129161736 : True := trivial
theorem Mine.main.tw4044139247061151142 : True := trivial
theorem Mine.main.tw4047586217144654443 : True := trivial
theorem Mine.main.tw4072190877284726289 : True := trivial
theorem Mine.main.tw4088224383575840552 : True := trivial
theorem Mine.main.tw4126091431370883743 : True := trivial
theorem Mine.main.tw4139100593308808776 : True := trivial
theorem Mine.main.tw4156125974679941130 : True := trivial
theorem Mine.main.tw4189750870438640210 : True := trivial
theorem Mine.main.tw4193505271845495863 : True := trivial
theorem Mine.main.tw4214129088363399043 : True := trivial
theorem Mine.main.tw4216741518440994707 : True := trivial
theorem Mine.main.tw4235993794536146220 : True := trivial
theorem Mine.main.tw4244067443239231564 : True := trivial
theorem Mine.main.tw4258463428174104133 : True := trivial
theorem Mine.main.tw4261964983698606537 : True := trivial
theorem Mine.main.tw4263747661660594248 : True := trivial
theorem Mine.main.tw4297412468100583042 : True := trivial
theorem Mine.main.tw4310270188432123100 : True := trivial
theorem Mine.main.tw4324958949535026087 : True := trivial
theorem Mine.main.tw432790634136133436 : True := trivial
theorem Mine.main.tw4330594992337426955 : True := trivial
theorem Mine.main.tw4333880214566435006 : True := trivial
theorem Mine.main.tw4350604851675314991 : True := trivial
theorem Mine.main.tw4359638763739663684 : True := trivial
theorem Mine.main.tw4365514962571936147 : True := trivial
theorem Mine.main.tw4370134204219402791 : True := trivial
theorem Mine.main.tw4370652028205933106 : True := trivial
theorem Mine.main.tw4385281892830598654 : True := trivial
theorem Mine.main.tw4413345314126155841 : True := trivial
theorem Mine.main.tw4420394385881154636 : True := trivial
theorem Mine.main.tw4425059988795641911 : True := trivial
theorem Mine.main.tw4452170602077327944 : True := trivial
theorem Mine.main.tw4458048076830672230 : True := trivial
theorem Mine.main.tw4475767826048309731 : True := trivial
theorem Mine.main.tw4490594533142400296 : True := trivial
theorem Mine.main.tw4491334807805099456 : True := trivial
theorem Mine.main.tw4500915450034043215 : True := trivial
theorem Mine.main.tw4502447428920916452 : True := trivial
theorem Mine.main.tw451873465583785326 : True := trivial
theorem Mine.main.tw453184122279072053 : True := trivial
theorem Mine.main.tw4540862073306924251 : True := trivial
theorem Mine.main.tw4544244032028310869 : True := trivial
theorem Mine.main.tw4573282807186111410 : True := trivial
theorem Mine.main.tw4582641712150720113 : True := trivial
theorem Mine.main.tw4585930131862741453 : True := trivial
theorem Mine.main.tw4587069139193485165 : True := trivial
theorem Mine.main.tw4605139254293405059 : True := trivial
theorem Mine.main.tw4630824681090250767 : True := trivial
theorem Mine.main.tw4637267157515435788 : True := trivial
theorem Mine.main.tw4638281056170512193 : True := trivial
theorem Mine.main.tw4644634924443464280 : True := trivial
theorem Mine.main.tw4650958065196391918 : True := trivial
theorem Mine.main.tw4651154628705390771 : True := trivial
theorem Mine.main.tw4681395471914393968 : True := trivial
theorem Mine.main.tw470481871638761223 : True := trivial
theorem Mine.main.tw471287901995484742 : True := trivial
theorem Mine.main.tw4719957520787936630 : True := trivial
theorem Mine.main.tw4741876487499883015 : True := trivial
theorem Mine.main.tw474381771622712015 : True := trivial
theorem Mine.main.tw4766233809647381661 : True := trivial
theorem Mine.main.tw480701840831765632 : True := trivial
theorem Mine.main.tw4812270449578504274 : True := trivial
theorem Mine.main.tw4816531377298285970 : True := trivial
theorem Mine.main.tw4817600198373253283 : True := trivial
theorem Mine.main.tw4838787530573997063 : True := trivial
theorem Mine.main.tw4839478117068044826 : True := trivial
theorem Mine.main.tw48596604365144762 : True := trivial
theorem Mine.main.tw4886955015573163100 : True := trivial
theorem Mine.main.tw4900431672193113347 : True := trivial
theorem Mine.main.tw4908570168794737769 : True := trivial
theorem Mine.main.tw4917070330192852093 : True := trivial
theorem Mine.main.tw4924694640843408985 : True := trivial
theorem Mine.main.tw4926259647451002352 : True := trivial
theorem Mine.main.tw4934831726729675915 : True := trivial
theorem Mine.main.tw4946776927847147119 : True := trivial
theorem Mine.main.tw4948327476702027199 : True := trivial
theorem Mine.main.tw495442525896006271 : True := trivial
theorem Mine.main.tw4966469486753893531 : True := trivial
theorem Mine.main.tw49674306023711395 : True := trivial
theorem Mine.main.tw4990475226369331113 : True := trivial
theorem Mine.main.tw5004366561265856203 : True := trivial
theorem Mine.main.tw5010051100324977839 : True := trivial
theorem Mine.main.tw5061512775090418087 : True := trivial
theorem Mine.main.tw5084117380071580128 : True := trivial
theorem Mine.main.tw5091494056299071398 : True := trivial
theorem Mine.main.tw5102693214775723256 : True := trivial
theorem Mine.main.tw5102715291955495162 : True := trivial
theorem Mine.main.tw5160751907100791332 : True := trivial
theorem Mine.main.tw5181119749688162637 : True := trivial
theorem Mine.main.tw5203219222101121401 : True := trivial
theorem Mine.main.tw52199770228462824 : True := trivial
theorem Mine.main.tw5234446048077146213 : True := trivial
theorem Mine.main.tw5240536507193477226 : True := trivial
theorem Mine.main.tw5240779543111244032 : True := trivial
theorem Mine.main.tw5243159528196176124 : True := trivial
theorem Mine.main.tw5268168578311729375 : True := trivial
theorem Mine.main.tw5287059835090251167 : True := trivial
theorem Mine.main.tw5289026146741335887 : True := trivial
theorem Mine.main.tw5309058905264134205 : True := trivial
theorem Mine.main.tw5343319030673445083 : True := trivial
theorem Mine.main.tw5352104535322881683 : True := trivial
theorem Mine.main.tw5363903885879670357 : True := trivial
theorem Mine.main.tw5372645768047454471 : True := trivial
theorem Mine.main.tw5378808338967829844 : True := trivial
theorem Mine.main.tw5396188567872606041 : True := trivial
theorem Mine.main.tw5396361742852586263 : True := trivial
theorem Mine.main.tw5400957986263281647 : True := trivial
theorem Mine.main.tw5401703158475992631 : True := trivial
theorem Mine.main.tw5418533224930618480 : True := trivial
theorem Mine.main.tw5435614590818080486 : True := trivial
theorem Mine.main.tw5436221411167023694 : True := trivial
theorem Mine.main.tw5436791530062809996 : True := trivial
theorem Mine.main.tw5450094653865882931 : True := trivial
theorem Mine.main.tw545269030811804461 : True := trivial
theorem Mine.main.tw5456330333991267789 : True := trivial
theorem Mine.main.tw5461779845614304980 : True := trivial
theorem Mine.main.tw5473700226181020891 : True := trivial
theorem Mine.main.tw54841869916938688 : True := trivial
theorem Mine.main.tw5491092008493831813 : True := trivial
theorem Mine.main.tw5502569546826302122 : True := trivial
theorem Mine.main.tw5517759331935216279 : True := trivial
theorem Mine.main.tw5518243967957118194 : True := trivial
theorem Mine.main.tw5532463470591059822 : True := trivial
theorem Mine.main.tw5534937755968359062 : True := trivial
theorem Mine.main.tw5552579831598893832 : True := trivial
theorem Mine.main.tw5567732340971880690 : True := trivial
theorem Mine.main.tw5571399437266216444 : True := trivial
theorem Mine.main.tw5585478044538960755 : True := trivial
theorem Mine.main.tw5613160597433933154 : True := trivial
theorem Mine.main.tw5616070069386785504 : True := trivial
theorem Mine.main.tw5623159541915647742 : True := trivial
theorem Mine.main.tw5638201095994319732 : True := trivial
theorem Mine.main.tw563973728909168745 : True := trivial
theorem Mine.main.tw5649967823195072380 : True := trivial
theorem Mine.main.tw5665406974723832613 : True := trivial
theorem Mine.main.tw5665735395497279834 : True := trivial
theorem Mine.main.tw5671064798259553346 : True := trivial
theorem Mine.main.tw5677329702179833609 : True := trivial
theorem Mine.main.tw5768018617931124328 : True := trivial
theorem Mine.main.tw5781596087445459943 : True := trivial
theorem Mine.main.tw5790326737455844299 : True := trivial
theorem Mine.main.tw5797031442667253490 : True := trivial
theorem Mine.main.tw5831584030425509755 : True := trivial
theorem Mine.main.tw5837888446457221635 : True := trivial
theorem Mine.main.tw5838101520590548733 : True := trivial
theorem Mine.main.tw5839530249802149432 : True := trivial
theorem Mine.main.tw5842977544298395883 : True := trivial
theorem Mine.main.tw5870225077901225703 : True := trivial
theorem Mine.main.tw5871769198996169552 : True := trivial
theorem Mine.main.tw5873463020976553958 : True := trivial
theorem Mine.main.tw5890889631881817875 : True := trivial
theorem Mine.main.tw5911328230951095277 : True := trivial
theorem Mine.main.tw5921134243170700561 : True := trivial
theorem Mine.main.tw5942767615974559732 : True := trivial
theorem Mine.main.tw5995161000843957690 : True := trivial
theorem Mine.main.tw6039574102191365023 : True := trivial
theorem Mine.main.tw6044114016751833949 : True := trivial
theorem Mine.main.tw6053611964639427726 : True := trivial
theorem Mine.main.tw6056095068991171605 : True := trivial
theorem Mine.main.tw6075091234017535682 : True := trivial
theorem Mine.main.tw6087835443962453003 : True := trivial
theorem Mine.main.tw6106196091520820027 : True := trivial
theorem Mine.main.tw6112859857366181021 : True := trivial
theorem Mine.main.tw6117098260805541702 : True := trivial
theorem Mine.main.tw613567027398061577 : True := trivial
theorem Mine.main.tw6137908229700043457 : True := trivial
theorem Mine.main.tw6140287776057189764 : True := trivial
theorem Mine.main.tw6161133996638707016 : True := trivial
theorem Mine.main.tw6162249291895867263 : True := trivial
theorem Mine.main.tw6164561884633627433 : True := trivial
theorem Mine.main.tw6183352029847204284 : True := trivial
theorem Mine.main.tw6214117541549086881 : True := trivial
theorem Mine.main.tw6222487380544312443 : True := trivial
theorem Mine.main.tw6234934611588079204 : True := trivial
theorem Mine.main.tw6237627108579964202 : True := trivial
theorem Mine.main.tw6252391252262179987 : True := trivial
theorem Mine.main.tw6254453501864316152 : True := trivial
theorem Mine.main.tw6264281720289328834 : True := trivial
theorem Mine.main.tw6283666216762299864 : True := trivial
theorem Mine.main.tw6334894449686545209 : True := trivial
theorem Mine.main.tw6341409668436394099 : True := trivial
theorem Mine.main.tw6361450105264607166 : True := trivial
theorem Mine.main.tw6384028539975533837 : True := trivial
theorem Mine.main.tw6385024630547198690 : True := trivial
theorem Mine.main.tw6394338452064613244 : True := trivial
theorem Mine.main.tw6404898279339705064 : True := trivial
theorem Mine.main.tw6418098437765475518 : True := trivial
theorem Mine.main.tw6437645805973890128 : True := trivial
theorem Mine.main.tw6449824600675878752 : True := trivial
theorem Mine.main.tw645136716886899192 : True := trivial
theorem Mine.main.tw6455149578367423246 : True := trivial
theorem Mine.main.tw6508729118710982530 : True := trivial
theorem Mine.main.tw6511744376749373798 : True := trivial
theorem Mine.main.tw6516198228755648517 : True := trivial
theorem Mine.main.tw6519269512792494810 : True := trivial
theorem Mine.main.tw6535589618603614281 : True := trivial
theorem Mine.main.tw6541472054586571296 : True := trivial
theorem Mine.main.tw6542085627976250192 : True := trivial
theorem Mine.main.tw6545385358150927430 : True := trivial
theorem Mine.main.tw6557543464795787104 : True := trivial
theorem Mine.main.tw6559806142732475569 : True := trivial
theorem Mine.main.tw656089360051881306 : True := trivial
theorem Mine.main.tw6563081329059234397 : True := trivial
theorem Mine.main.tw65644731488775911 : True := trivial
theorem Mine.main.tw6565609875121592624 : True := trivial
theorem Mine.main.tw6582852498587848125 : True := trivial
theorem Mine.main.tw6584820252761975732 : True := trivial
theorem Mine.main.tw6590341273101898363 : True := trivial
theorem Mine.main.tw6596593509180878263 : True := trivial
theorem Mine.main.tw6605025701479795990 : True := trivial
theorem Mine.main.tw66260789543402106 : True := trivial
theorem Mine.main.tw6632538468102435922 : True := trivial
theorem Mine.main.tw6635558491612396129 : True := trivial
theorem Mine.main.tw6639522245352263942 : True := trivial
theorem Mine.main.tw6640438233256266117 : True := trivial
theorem Mine.main.tw6655696309031964122 : True := trivial
theorem Mine.main.tw6657087868060814 : True := trivial
theorem Mine.main.tw6660377722381337597 : True := trivial
theorem Mine.main.tw6663778134991626487 : True := trivial
theorem Mine.main.tw6674386428176565332 : True := trivial
theorem Mine.main.tw6674893403203295414 : True := trivial
theorem Mine.main.tw6685547612577666157 : True := trivial
theorem Mine.main.tw6690441779611380620 : True := trivial
theorem Mine.main.tw6696893160125735727 : True := trivial
theorem Mine.main.tw6697339332421208802 : True := trivial
theorem Mine.main.tw6702130215012162313 : True := trivial
theorem Mine.main.tw6739167090932742037 : True := trivial
theorem Mine.main.tw6768520987592691376 : True := trivial
theorem Mine.main.tw6785432497481299714 : True := trivial
theorem Mine.main.tw6785657489111691699 : True := trivial
theorem Mine.main.tw6788530277367551627 : True := trivial
theorem Mine.main.tw6788695710022549768 : True := trivial
theorem Mine.main.tw6801380410627298636 : True := trivial
theorem Mine.main.tw6855474311058116810 : True := trivial
theorem Mine.main.tw6862268138105152660 : True := trivial
theorem Mine.main.tw6862492499505807319 : True := trivial
theorem Mine.main.tw6868236387235032019 : True := trivial
theorem Mine.main.tw6877560268529008848 : True := trivial
theorem Mine.main.tw6880717277089553138 : True := trivial
theorem Mine.main.tw6881213696576129298 : True := trivial
theorem Mine.main.tw6886502059237256666 : True := trivial
theorem Mine.main.tw6898400011967081535 : True := trivial
theorem Mine.main.tw6907636171062424033 : True := trivial
theorem Mine.main.tw6912675738884088206 : True := trivial
theorem Mine.main.tw6914184659022975773 : True := trivial
theorem Mine.main.tw6915769261274880522 : True := trivial
theorem Mine.main.tw6921685317656363116 : True := trivial
theorem Mine.main.tw6935676897619631941 : True := trivial
theorem Mine.main.tw6969975859711568873 : True := trivial
theorem Mine.main.tw6981580820607432535 : True := trivial
theorem Mine.main.tw6981815665589151136 : True := trivial
theorem Mine.main.tw7000664437366286474 : True := trivial
theorem Mine.main.tw7010351842590255796 : True := trivial
theorem Mine.main.tw7019240024125815769 : True := trivial
theorem Mine.main.tw7054876372555587774 : True := trivial
theorem Mine.main.tw7070123817558143148 : True := trivial
theorem Mine.main.tw7073996269223845280 : True := trivial
theorem Mine.main.tw7074144079889050967 : True := trivial
theorem Mine.main.tw7083192437325867461 : True := trivial
theorem Mine.main.tw7093617532817203218 : True := trivial
theorem Mine.main.tw7108953243070827183 : True := trivial
theorem Mine.main.tw7113585516715319716 : True := trivial
theorem Mine.main.tw7139307881021679148 : True := trivial
theorem Mine.main.tw7142256002058171272 : True := trivial
theorem Mine.main.tw7153082081811710619 : True := trivial
theorem Mine.main.tw716429049611869786 : True := trivial
theorem Mine.main.tw7165207203227711834 : True := trivial
theorem Mine.main.tw7173623326730630234 : True := trivial
theorem Mine.main.tw7214478077546791972 : True := trivial
theorem Mine.main.tw7235775444256392728 : True := trivial
theorem Mine.main.tw7237411587787531456 : True := trivial
theorem Mine.main.tw7238065321881607702 : True := trivial
theorem Mine.main.tw7268301785047649679 : True := trivial
theorem Mine.main.tw7273056430967151046 : True := trivial
theorem Mine.main.tw7293298908176781663 : True := trivial
theorem Mine.main.tw7298748307773712898 : True := trivial
theorem Mine.main.tw7299474751278700455 : True := trivial
theorem Mine.main.tw7308723440029596264 : True := trivial
theorem Mine.main.tw7332330508316399935 : True := trivial
theorem Mine.main.tw7332552209862256014 : True := trivial
theorem Mine.main.tw734625210370093676 : True := trivial
theorem Mine.main.tw7358942708152152329 : True := trivial
theorem Mine.main.tw7369933531419079829 : True := trivial
theorem Mine.main.tw73751810991705359 : True := trivial
theorem Mine.main.tw7380652910202371479 : True := trivial
theorem Mine.main.tw7411558596216406370 : True := trivial
theorem Mine.main.tw7439787175107056256 : True := trivial
theorem Mine.main.tw7472237861779093752 : True := trivial
theorem Mine.main.tw7472368607099979303 : True := trivial
theorem Mine.main.tw7487416344156704005 : True := trivial
theorem Mine.main.tw750237026923860459 : True := trivial
theorem Mine.main.tw7514964652732493775 : True := trivial
theorem Mine.main.tw7530017696762252536 : True := trivial
theorem Mine.main.tw7554534293552944094 : True := trivial
theorem Mine.main.tw7563215957194029611 : True := trivial
theorem Mine.main.tw7590696779544312186 : True := trivial
theorem Mine.main.tw7591743695986301205 : True := trivial
theorem Mine.main.tw7623509227018997848 : True := trivial
theorem Mine.main.tw7623511443260959870 : True := trivial
theorem Mine.main.tw7624122152786673341 : True := trivial
theorem Mine.main.tw7624293977416268664 : True := trivial
theorem Mine.main.tw7639352225515584698 : True := trivial
theorem Mine.main.tw7647378279178456250 : True := trivial
theorem Mine.main.tw765107192605250810 : True := trivial
theorem Mine.main.tw7668756792840097458 : True := trivial
theorem Mine.main.tw7675930258259734528 : True := trivial
theorem Mine.main.tw7691172733374981047 : True := trivial
theorem Mine.main.tw7697417962357392202 : True := trivial
theorem Mine.main.tw7698036289167662538 : True := trivial
theorem Mine.main.tw7699798408344515789 : True := trivial
theorem Mine.main.tw7742616358663508648 : True := trivial
theorem Mine.main.tw7751025194823839400 : True := trivial
theorem Mine.main.tw7761410557224570781 : True := trivial
theorem Mine.main.tw7846812961960373227 : True := trivial
theorem Mine.main.tw785246043732427063 : True := trivial
theorem Mine.main.tw7860819179221955721 : True := trivial
theorem Mine.main.tw7872040881533418190 : True := trivial
theorem Mine.main.tw7875838824674609581 : True := trivial
theorem Mine.main.tw7883848961242879871 : True := trivial
theorem Mine.main.tw7884273913378172499 : True := trivial
theorem Mine.main.tw7884331609784382070 : True := trivial
theorem Mine.main.tw7929128423345735474 : True := trivial
theorem Mine.main.tw793299525264137939 : True := trivial
theorem Mine.main.tw7943094425149488825 : True := trivial
theorem Mine.main.tw796168687070700412 : True := trivial
theorem Mine.main.tw7963949975375616125 : True := trivial
theorem Mine.main.tw7972779244933481256 : True := trivial
theorem Mine.main.tw7974275031393228247 : True := trivial
theorem Mine.main.tw799486724532869496 : True := trivial
theorem Mine.main.tw8006537069960932158 : True := trivial
theorem Mine.main.tw8046773169563483271 : True := trivial
theorem Mine.main.tw8060562821785662972 : True := trivial
theorem Mine.main.tw8074507844701363242 : True := trivial
theorem Mine.main.tw8079908401900000222 : True := trivial
theorem Mine.main.tw8090509862211737132 : True := trivial
theorem Mine.main.tw8102450764968551371 : True := trivial
theorem Mine.main.tw8118072479153026202 : True := trivial
theorem Mine.main.tw8125125469695226666 : True := trivial
theorem Mine.main.tw8127475511531132179 : True := trivial
theorem Mine.main.tw8153860185051352139 : True := trivial
theorem Mine.main.tw8211959896082780389 : True := trivial
theorem Mine.main.tw8228058824784995430 : True := trivial
theorem Mine.main.tw8231103150381890471 : True := trivial
theorem Mine.main.tw8249873531624179374 : True := trivial
theorem Mine.main.tw8260724100714396741 : True := trivial
theorem Mine.main.tw8265370782698574782 : True := trivial
theorem Mine.main.tw8281396171620568247 : True := trivial
theorem Mine.main.tw8283060676807011144 : True := trivial
theorem Mine.main.tw832900586485598795 : True := trivial
theorem Mine.main.tw833945537157984683 : True := trivial
theorem Mine.main.tw8344989883159853150 : True := trivial
theorem Mine.main.tw834873547066669988 : True := trivial
theorem Mine.main.tw8402242094647718915 : True := trivial
theorem Mine.main.tw8404659333953806752 : True := trivial
theorem Mine.main.tw8419495778230234659 : True := trivial
theorem Mine.main.tw8427638858588021438 : True := trivial
theorem Mine.main.tw8436210846270712021 : True := trivial
theorem Mine.main.tw8440099810896429113 : True := trivial
theorem Mine.main.tw8466321980469482115 : True := trivial
theorem Mine.main.tw8467378866343419333 : True := trivial
theorem Mine.main.tw8475525182357872103 : True := trivial
theorem Mine.main.tw8478376212529829071 : True := trivial
theorem Mine.main.tw8484041278411425421 : True := trivial
theorem Mine.main.tw8492455212021363390 : True := trivial
theorem Mine.main.tw8496349624203035976 : True := trivial
theorem Mine.main.tw8528285597010949478 : True := trivial
theorem Mine.main.tw8546124895413445307 : True := trivial
theorem Mine.main.tw8548823596671561066 : True := trivial
theorem Mine.main.tw854977524454699277 : True := trivial
theorem Mine.main.tw8557395850702784662 : True := trivial
theorem Mine.main.tw8567518541235275850 : True := trivial
theorem Mine.main.tw8596439761284757289 : True := trivial
theorem Mine.main.tw861011362418597151 : True := trivial
theorem Mine.main.tw8624498521744291746 : True := trivial
theorem Mine.main.tw8627561154394265716 : True := trivial
theorem Mine.main.tw8634654232796393261 : True := trivial
theorem Mine.main.tw8651587035891514320 : True := trivial
theorem Mine.main.tw8652556701797213591 : True := trivial
theorem Mine.main.tw8663697691656813868 : True := trivial
theorem Mine.main.tw8681388529863501421 : True := trivial
theorem Mine.main.tw8707812797481193996 : True := trivial
theorem Mine.main.tw8708525158762292434 : True := trivial
theorem Mine.main.tw8729708805864041840 : True := trivial
theorem Mine.main.tw8748973510418095054 : True := trivial
theorem Mine.main.tw8785732689226369382 : True := trivial
theorem Mine.main.tw8808949154728543533 : True := trivial
theorem Mine.main.tw8809968196449919288 : True := trivial
theorem Mine.main.tw8828626079734051433 : True := trivial
theorem Mine.main.tw8834365191522931223 : True := trivial
theorem Mine.main.tw8844999433837080629 : True := trivial
theorem Mine.main.tw8879939841973710529 : True := trivial
theorem Mine.main.tw8883465813499100731 : True := trivial
theorem Mine.main.tw8903568455446660058 : True := trivial
theorem Mine.main.tw8905464785575363620 : True := trivial
theorem Mine.main.tw8905992674379837232 : True := trivial
theorem Mine.main.tw892681787802806017 : True := trivial
theorem Mine.main.tw8930851030842425676 : True := trivial
theorem Mine.main.tw8947760058931562597 : True := trivial
theorem Mine.main.tw8952462522180670554 : True := trivial
theorem Mine.main.tw8984930932524396370 : True := trivial
theorem Mine.main.tw8989776476301544223 : True := trivial
theorem Mine.main.tw9011639564254621642 : True := trivial
theorem Mine.main.tw9069182735580402390 : True := trivial
theorem Mine.main.tw9071729483887776986 : True := trivial
theorem Mine.main.tw9074062148099726239 : True := trivial
theorem Mine.main.tw907572574359809234 : True := trivial
theorem Mine.main.tw9121559901702372667 : True := trivial
theorem Mine.main.tw9155575984036265788 : True := trivial
theorem Mine.main.tw9161159452563919750 : True := trivial
theorem Mine.main.tw917386388269078853 : True := trivial
theorem Mine.main.tw9175052073728820173 : True := trivial
theorem Mine.main.tw9184045479044318644 : True := trivial
theorem Mine.main.tw918671981122897330 : True := trivial
theorem Mine.main.tw9189880136782149556 : True := trivial
theorem Mine.main.tw9190990891756207365 : True := trivial
theorem Mine.main.tw9211707205177423737 : True := trivial
theorem Mine.main.tw9247501659233101145 : True := trivial
theorem Mine.main.tw9253799994812790149 : True := trivial
theorem Mine.main.tw9265829497004654079 : True := trivial
theorem Mine.main.tw9268297945177815525 : True := trivial
theorem Mine.main.tw9272984997812220495 : True := trivial
theorem Mine.main.tw9274054859765456524 : True := trivial
theorem Mine.main.tw9287587430799945685 : True := trivial
theorem Mine.main.tw9293455121233016472 : True := trivial
theorem Mine.main.tw9302470337196694018 : True := trivial
theorem Mine.main.tw9321267617633783869 : True := trivial
theorem Mine.main.tw9360745474812902239 : True := trivial
theorem Mine.main.tw9361300454564663673 : True := trivial
theorem Mine.main.tw9368617206455126095 : True := trivial
theorem Mine.main.tw9369988214560726041 : True := trivial
theorem Mine.main.tw9376575566392132001 : True := trivial
theorem Mine.main.tw9381277316556691805 : True := trivial
theorem Mine.main.tw9392487213469676918 : True := trivial
theorem Mine.main.tw9394770849952503311 : True := trivial
theorem Mine.main.tw9406782406253462049 : True := trivial
theorem Mine.main.tw9409942529964740878 : True := trivial
theorem Mine.main.tw9417822746687237092 : True := trivial
theorem Mine.main.tw9432497158254318119 : True := trivial
theorem Mine.main.tw9470667924834194258 : True := trivial
theorem Mine.main.tw9483120023164983764 : True := trivial
theorem Mine.main.tw9483696857397876608 : True := trivial
theorem Mine.main.tw9498315638749924794 : True := trivial
theorem Mine.main.tw9508770018378322450 : True := trivial
theorem Mine.main.tw9512817274939609580 : True := trivial
theorem Mine.main.tw9515011664573035354 : True := trivial
theorem Mine.main.tw9557352009045844224 : True := trivial
theorem Mine.main.tw9558744834307401277 : True := trivial
theorem Mine.main.tw9561784451562097942 : True := trivial
theorem Mine.main.tw9563168847844234846 : True := trivial
theorem Mine.main.tw9573086628692744296 : True := trivial
theorem Mine.main.tw957831766286570088 : True := trivial
theorem Mine.main.tw9603038260234531403 : True := trivial
theorem Mine.main.tw9608646114965807792 : True := trivial
theorem Mine.main.tw961187720498965250 : True := trivial
theorem Mine.main.tw962032349192862916 : True := trivial
theorem Mine.main.tw962193829226610041 : True := trivial
theorem Mine.main.tw9626384672669237482 : True := trivial
theorem Mine.main.tw9656510801202774680 : True := trivial
theorem Mine.main.tw9670510015898674028 : True := trivial
theorem Mine.main.tw9681375758050803366 : True := trivial
theorem Mine.main.tw9682133043923132273 : True := trivial
theorem Mine.main.tw9693634834776466397 : True := trivial
theorem Mine.main.tw9703084557020090508 : True := trivial
theorem Mine.main.tw9706551924872666739 : True := trivial
theorem Mine.main.tw9716624006974247489 : True := trivial
theorem Mine.main.tw9730157408454304684 : True := trivial
theorem Mine.main.tw9747897558166968733 : True := trivial
theorem Mine.main.tw9756827057097773860 : True := trivial
theorem Mine.main.tw9805168224760091760 : True := trivial
theorem Mine.main.tw9808303207383738048 : True := trivial
theorem Mine.main.tw9840939614602229412 : True := trivial
theorem Mine.main.tw9848185148710128376 : True := trivial
theorem Mine.main.tw9880953963774564861 : True := trivial
theorem Mine.main.tw9889869242142760280 : True := trivial
theorem Mine.main.tw9897820754763898449 : True := trivial
theorem Mine.main.tw9903775340124721222 : True := trivial
theorem Mine.main.tw9925469786538053656 : True := trivial
theorem Mine.main.tw9933577340671076847 : True := trivial
theorem Mine.main.tw9939699701984659387 : True := trivial
theorem Mine.main.tw9942282790977331292 : True := trivial
theorem Mine.main.tw9957550378297406723 : True := trivial
theorem Mine.main.tw9964214247947446159 : True := trivial
theorem Mine.main.tw9994787619460420439 : True := trivial
namespace Mine
set_option Elab.async true
theorem main : Mine.Bx Mine.Lt.names.P → PySem.Challenge.rw_iw0015_01.Holds := by
  intro REST
  w_on; o_law
  show Mine.HeldBy REST _
  k_head; (case hw => w_witness2)
  refine Mine.keep_of ?_
  have h : Mine.Lt.names.P := REST.get
  delta Mine.Lt.names at h
  exact h
set_option Elab.async false
theorem calm : Mine.main.heap_1_39 = Mine.main.heap_1_39 := by
  w_top off
  rfl
local macro_rules | `(tactic| k_room) => `(tactic| (first | exact Mine.room1 (by assumption) (by decide) | exact Mine.room2 (by assumption) (by decide) | exact Mine.room3 (by assumption) (by decide) | exact Mine.room4 (by assumption) (by decide) | ((simp only [depth_under_make, depth_under_kw, depth_in1, depth_deeper, depth_caller, Mine.aTop_depth]); omega)))
local macro_rules | `(tactic| k_units) => `(tactic| (first | exact Mine.room1 (by assumption) (by decide) | exact Mine.room2 (by assumption) (by decide) | exact Mine.room3 (by assumption) (by decide) | exact Mine.room4 (by assumption) (by decide) | ((simp only [units_under_make, units_in1, units_deeper, Around.mark_units, units_caller, Mine.aTop_units]); omega)))
local macro_rules | `(tactic| walk_at "ite") => `(tactic| first | with_reducible refine Mine.ite_nt ?_ | with_reducible refine Mine.ite_nf ?_ | with_reducible refine Mine.ite_t ?_ | with_reducible refine Mine.ite_f ?_ | (k_openite; first | refine ite_pos (by with_reducible assumption) ?_ | refine ite_neg (by with_reducible assumption) ?_ | refine ite_isFalse (by with_reducible assumption) ?_ | (k_spoken; first | refine ite_pos (by k_dec) ?_ | refine ite_neg (by k_dec) ?_)) | (k_closed; k_dflt (first | refine ite_pos (by decide) ?_ | refine ite_neg (by decide) ?_)) | with_reducible refine ite_tt ?_ | with_reducible refine ite_ff ?_ | (with_reducible refine split_ine ?_ ?_ <;> intro _) | (with_reducible refine split_ieq ?_ ?_ <;> intro _) | with_reducible refine split_not ?_ | (with_reducible refine PyProof.Rows.split_dec ?_ ?_ <;> intro _) | (with_reducible refine PyProof.Rows.split_bool ?_ ?_ <;> intro _))
local macro_rules | `(tactic| walk_at "execs cons") => `(tactic| ((first | with_reducible refine Mine.gen_toks (fun tk' => ?_) | skip); (with_reducible refine wpAny_execs_cons ?_); (try dsimp only)))
local macro_rules | `(tactic| walk_at "execs nil") => `(tactic| ((first | with_reducible refine Mine.gen_toks (fun tk' => ?_) | skip); (with_reducible refine wpAny_execs_nil ?_)))
local macro_rules | `(tactic| walk_at "exec If") => `(tactic| (with_reducible refine wpAny_If ?_))
local macro_rules | `(tactic| k_mem) => `(tactic| ((repeat (first | assumption | exact List.Mem.head _ | refine' List.Mem.tail _ ?_)); done))
local macro_rules | `(tactic| k_all) => `(tactic| (refine tbn_neAll ?_; first | assumption | exact allLt_of (by assumption)))
local macro_rules | `(tactic| k_in) => `(tactic| first | with_reducible assumption | exact Frag.In.keeps (by with_reducible assumption) (Fr.keep (by with_reducible assumption)))
local macro_rules | `(tactic| walk_at "getMethod ref") => `(tactic| (k_here; k_dflt (first | (refine' method_inst ?gk1 ?gk2 ?gk3 ?gk4 ?gk5 ?gk6 ?gk7 ?_; (case gk1 => k_asm); (case gk2 => k_asm); (case gk3 => k_inst); (case gk4 => k_is); (case gk5 => k_is); (case gk6 => k_is); (case gk7 => k_get); k_whole) | (refine' method_of_cls ?gk1 ?gk2 ?gk3 ?_; (case gk1 => k_asm); (case gk2 => k_asm); (case gk3 => k_is); k_whole) | (refine' kmu_sm ?gk1 ?gk2 ?gk4 ?gk5 ?gk6 ?gk7 ?gk8 ?gk9 ?gj0 ?gj1 ?gj2 ?gj3 ?gj4 ?_; (case gk1 => k_asm); (case gk2 => k_asm); (case gk4 => k_inst); (case gk5 => k_is); (case gk6 => k_is); (case gk7 => k_is); (case gk8 => k_is); (case gk9 => k_is); (case gj0 => k_is); (case gj1 => decide +kernel); (case gj2 => k_get); (case gj3 => k_is); (case gj4 => k_handed); k_whole))))
local macro_rules | `(tactic| walk_at "pyIter bytes") => `(tactic| ((with_reducible show wpAny _ _ (pyIter (Value.bytes _ _)) (fun it s₂ => LoopAtV _ _ _ _ _ _ _ _ _ it s₂) _ _); k_here; k_bytesUnr))
theorem c_time {w : World} {mean : ExcName → Option Value} {mg mb : Str → Option Value} {dp un : Nat} {gd : Option (List Code)} {cn : Str} {cs : Scope} {a : Addr} {ccd : Value} {cl : List (Str × Addr)} {outer : List Env} {A₀ : Around} {base h₀ : Heap} {L : Addr} {m : Str → Option Value} {s : Shared} {Q E : Value → Shared → Prop} {news : List (Addr × Obj)} {hd : Option Value} {h mi se : Int} {t1 t2 t3 : Tok}
    (B : Below A₀ base outer h₀) (F : Fr h₀ L s.heap m) (X : (Mine.Lt.names.heap_1 w.params).In h₀) (N : News h₀ L s.heap news) (T : Top topProg (Mine.LoOf Mine.Lt.names.view_1) mean mg mb h₀) (hk : cs.kind = .function) (hdp : dp + 10 < recursionLimit) (hun : un + 10 * 10 < cLine)
    (ok : Mine.TimeOk h mi se)
    (hret : ∀ (x dx : Addr) (h' : Heap) (tk k1 k2 k3 : Nat), Fr h₀ L h' m → News h₀ L h' ((x, instObj 38 dx) :: (dx, dictOf [Mine.ent w "hour" k1 (.int h t1), Mine.ent w "minute" k2 (.int mi t2), Mine.ent w "second" k3 (.int se t3)] 3) :: news) → (∀ p ∈ news, p.1 < dx) → dx < x → Q (.ref x) { s with heap := h', toks := tk }) :
    wpAny (model PySem.Challenge.rw_iw0015_01.row.prog w) (Mine.aTop hd dp un gd cn cs L a ccd cl outer) (call (.ref 38) [.int h t1, .int mi t2, .int se t3]) Q E s := by
  obtain ⟨v1, v2, v3, v4, v5, v6⟩ := ok
  revert X; k_fill; intro X
  obtain ⟨sh9, sg9, sd9, st9, so9⟩ := s; (try dsimp only at F N); (try dsimp only at hret); (try dsimp only at hno)
  (k_here; k_dflt ((refine' call_cls ?k1 ?k2 ?k3 ?k4 ?k5 ?k6 ?_; (case k1 => k_asm); (case k2 => k_asm); (case k3 => k_asm); (case k4 => k_is); (case k5 => k_is); (case k6 => k_is); k_whole; intro x' d' hN F₁ N₁ l1 l2; (have l1' := l1); (have l2' := l2); (try k_lt l1'); (try k_lt2 l2'); (try k_sweep))))
  k_dflt (refine' code_def (binds := [((Str.ofString "self"), .ref x'), ((Str.ofString "hour"), .int h t1), ((Str.ofString "minute"), .int mi t2), ((Str.ofString "second"), .int se t3)]) ?k1 ?k2 ?k3 ?k4 ?k5 ?kA ?kF ?kK ?k6 ?k7 ?k8 ?k9 ?kB ?_ ?c2 ?c3 ?c4 ?c5; (case kA => exact rfl); (case kF => exact rfl); (case kK => first | assumption | exact rfl); (case k1 => k_asm); (case k2 => k_asm); (case k3 => k_asm); (case k4 => k_asm); (case k5 => k_asm); (case k6 => k_is); (case k7 => k_is); (case k8 => k_room); (case k9 => first | exact BindsTo.of_eq rfl | exact binds_K (by k_in) rfl (by k_is) rfl rfl rfl); (case c5 => decide); (case kB => exact locs rfl); (case c2 => exact rfl); (case c3 => exact rfl); (case c4 => exact rfl); k_whole; intro g' L' h' FG' F' N' B' X' T'; (try dsimp only); (try k_fold))
  simp only [List.reverse_cons, List.reverse_nil, List.nil_append, List.cons_append] at F'
  refine Mine.gen_toks (fun tk0 => ?_)
  repeat' (first | (k_unfold; (try dsimp only)) | (k_end; wrow_close) | walk1 | (dsimp only; walk1) | (leave1; walk_say "STEP leave1"; try dsimp only) | fail "no step")
  refine' hret x' d' _ _ _ _ _ ?f ?n l1 l2
  case n => assumption
  case f => assumption

theorem c_time_bad {w : World} {mean : ExcName → Option Value} {mg mb : Str → Option Value} {dp un : Nat} {gd : Option (List Code)} {cn : Str} {cs : Scope} {a : Addr} {ccd : Value} {cl : List (Str × Addr)} {outer : List Env} {A₀ : Around} {base h₀ : Heap} {L : Addr} {m : Str → Option Value} {s : Shared} {Q E : Value → Shared → Prop} {news : List (Addr × Obj)} {h mi se : Int} {t1 t2 t3 : Tok}
    (B : Below A₀ base outer h₀) (F : Fr h₀ L s.heap m) (X : (Mine.Lt.names.heap_1 w.params).In h₀) (N : News h₀ L s.heap news) (T : Top topProg (Mine.LoOf Mine.Lt.names.view_1) mean mg mb h₀) (hk : cs.kind = .function) (hdp : dp + 10 < recursionLimit) (hun : un + 10 * 10 < cLine)
    (bad : ¬ Mine.TimeOk h mi se)
    (hexc : ∀ (g h' : Heap) (e t : Addr) (vs : List Value) (tk : Nat), Fr h₀ L g m → g.UpToSlots h' → RaisedS base g (envX cn cs L a ccd cl :: outer) e (.type "ValueError") t vs news h' → RaisedK base (envX cn cs L a ccd cl :: outer) e (.type "ValueError") t vs news h' → E (.ref e) { s with heap := h', toks := tk }) :
    wpAny (model PySem.Challenge.rw_iw0015_01.row.prog w) (Mine.aTop none dp un gd cn cs L a ccd cl outer) (call (.ref 38) [.int h t1, .int mi t2, .int se t3]) Q E s := by
  have bad' := bad; unfold Mine.TimeOk at bad'
  revert X; k_fill; intro X
  obtain ⟨sh9, sg9, sd9, st9, so9⟩ := s; (try dsimp only at F N); (try dsimp only at hret); (try dsimp only at hno)
  (k_here; k_dflt ((refine' call_cls ?k1 ?k2 ?k3 ?k4 ?k5 ?k6 ?_; (case k1 => k_asm); (case k2 => k_asm); (case k3 => k_asm); (case k4 => k_is); (case k5 => k_is); (case k6 => k_is); k_whole; intro x' d' hN F₁ N₁ l1 l2; (have l1' := l1); (have l2' := l2); (try k_lt l1'); (try k_lt2 l2'); (try k_sweep))))
  k_dflt (refine' code_def (binds := [((Str.ofString "self"), .ref x'), ((Str.ofString "hour"), .int h t1), ((Str.ofString "minute"), .int mi t2), ((Str.ofString "second"), .int se t3)]) ?k1 ?k2 ?k3 ?k4 ?k5 ?kA ?kF ?kK ?k6 ?k7 ?k8 ?k9 ?kB ?_ ?c2 ?c3 ?c4 ?c5; (case kA => exact rfl); (case kF => exact rfl); (case kK => first | assumption | exact rfl); (case k1 => k_asm); (case k2 => k_asm); (case k3 => k_asm); (case k4 => k_asm); (case k5 => k_asm); (case k6 => k_is); (case k7 => k_is); (case k8 => k_room); (case k9 => first | exact BindsTo.of_eq rfl | exact binds_K (by k_in) rfl (by k_is) rfl rfl rfl); (case c5 => decide); (case kB => exact locs rfl); (case c2 => exact rfl); (case c3 => exact rfl); (case c4 => exact rfl); k_whole; intro g' L' h' FG' F' N' B' X' T'; (try dsimp only); (try k_fold))
  simp only [List.reverse_cons, List.reverse_nil, List.nil_append, List.cons_append] at F'
  refine Mine.gen_toks (fun tk0 => ?_)
  repeat' (first | ((with_reducible show wpAny _ _ (PySem.leaving _ (Value.ref _)) _ _ _); k_here; first | (refine' leave_raiseS ?k1 ?k0 ?k2 ?k3 ?_; (case k0 => first | assumption | exact Heap.MadeExc.of (by assumption)); (case k2 => assumption); (case k1 => assumption); (case k3 => k_asm); k_whole; intro h' t' S' R' U'; (try dsimp only at S' R' U' ⊢)) | (refine' leave_onS ?k1 ?k2 ?k3 ?k4 ?_; (case k3 => assumption); (case k2 => assumption); (case k1 => assumption); (case k4 => assumption); k_whole; intro h' S' R' U'; (try dsimp only at S' R' U' ⊢))) | (k_unfold; (try dsimp only)) | (k_end; wrow_close) | walk1 | (dsimp only; walk1) | (leave1; walk_say "STEP leave1"; try dsimp only) | fail "no step")
  all_goals first | (exfalso; omega) | exact hexc _ _ _ _ _ _ (by assumption) (by assumption) (Mine.raisedS_sub (by assumption) (by intro p hp; repeat (first | exact hp | refine List.mem_cons_of_mem _ ?_))) (Mine.raised_sub (by assumption) (by intro p hp; repeat (first | exact hp | refine List.mem_cons_of_mem _ ?_)))

theorem datec {w : World} {mean : ExcName → Option Value} {mg mb : Str → Option Value} {dp un : Nat} {gd : Option (List Code)} {cn : Str} {cs : Scope} {a : Addr} {ccd : Value} {cl : List (Str × Addr)} {outer : List Env} {A₀ : Around} {base h₀ : Heap} {L : Addr} {m : Str → Option Value} {s : Shared} {Q E : Value → Shared → Prop} {news : List (Addr × Obj)} {hd : Option Value} {y mo d h mi se : Int} {t1 t2 t3 t4 t5 t6 : Tok} {pos : List Value}
    (B : Below A₀ base outer h₀) (F : Fr h₀ L s.heap m) (X : (Mine.Lt.names.heap_1 w.params).In h₀) (N : News h₀ L s.heap news) (T : Top topProg (Mine.LoOf Mine.Lt.names.view_1) mean mg mb h₀) (hk : cs.kind = .function) (hdp : dp + 20 < recursionLimit) (hun : un + 20 * 10 < cLine)
    (okt : Mine.TimeOk h mi se) (okd : Mine.DateOk y mo d) (hb : ∀ (oc : Value) (od : Option Addr) (fd : FuncData) (osl : Array (Option Value)), (Mine.Lt.names.heap_1 w.params).lookup 57 = some ⟨oc, od, .func fd, osl⟩ → ∀ (s : Shared) (x : Addr), (Mine.Lt.names.heap_1 w.params).In s.heap → BindsTo s fd ⟨.ref x :: pos, []⟩ [((Str.ofString "self"), .ref x), ((Str.ofString "year"), .int y t4), ((Str.ofString "month"), .int mo t5), ((Str.ofString "day"), .int d t6), ((Str.ofString "hour"), .int h t1), ((Str.ofString "minute"), .int mi t2), ((Str.ofString "second"), .int se t3)])
    (hret : ∀ (x dx : Addr) (h' : Heap) (tk k1 k2 k3 k4 k5 k6 : Nat), Fr h₀ L h' m → News h₀ L h' ((x, instObj 104 dx) :: (dx, dictOf [Mine.ent w "year" k1 (.int y t4), Mine.ent w "month" k2 (.int mo t5), Mine.ent w "day" k3 (.int d t6), Mine.ent w "hour" k4 (.int h t1), Mine.ent w "minute" k5 (.int mi t2), Mine.ent w "second" k6 (.int se t3)] 6) :: news) → (∀ p ∈ news, p.1 < dx) → dx < x → Q (.ref x) { s with heap := h', toks := tk }) :
    wpAny (model PySem.Challenge.rw_iw0015_01.row.prog w) (Mine.aTop hd dp un gd cn cs L a ccd cl outer) (call (.ref 104) pos) Q E s := by
  have okt' := okt; have okd' := okd
  obtain ⟨v1, v2, v3, v4, v5, v6⟩ := okt'
  obtain ⟨w1, w2, w3, w4, w5, w6⟩ := okd'
  revert X; k_fill; intro X
  obtain ⟨sh9, sg9, sd9, st9, so9⟩ := s; (try dsimp only at F N); (try dsimp only at hret); (try dsimp only at hno)
  (k_here; k_dflt ((refine' call_cls ?k1 ?k2 ?k3 ?k4 ?k5 ?k6 ?_; (case k1 => k_asm); (case k2 => k_asm); (case k3 => k_asm); (case k4 => k_is); (case k5 => k_is); (case k6 => k_is); k_whole; intro x' d' hN F₁ N₁ l1 l2; (have l1' := l1); (have l2' := l2); (try k_lt l1'); (try k_lt2 l2'); (try k_sweep))))
  k_dflt (refine' code_def (binds := [((Str.ofString "self"), .ref x'), ((Str.ofString "year"), .int y t4), ((Str.ofString "month"), .int mo t5), ((Str.ofString "day"), .int d t6), ((Str.ofString "hour"), .int h t1), ((Str.ofString "minute"), .int mi t2), ((Str.ofString "second"), .int se t3)]) ?k1 ?k2 ?k3 ?k4 ?k5 ?kA ?kF ?kK ?k6 ?k7 ?k8 ?k9 ?kB ?_ ?c2 ?c3 ?c4 ?c5; (case kA => exact rfl); (case kF => exact rfl); (case kK => first | assumption | exact rfl); (case k1 => k_asm); (case k2 => k_asm); (case k3 => k_asm); (case k4 => k_asm); (case k5 => k_asm); (case k6 => k_is); (case k7 => k_is); (case k8 => k_room); (case k9 => first | exact hb _ _ _ _ (by k_is) _ _ (by k_in) | exact BindsTo.of_eq rfl | exact binds_K (by k_in) rfl (by k_is) rfl rfl rfl); (case c5 => decide); (case kB => exact locs rfl); (case c2 => exact rfl); (case c3 => exact rfl); (case c4 => exact rfl); k_whole; intro g' L' h' FG' F' N' B' X' T'; (try dsimp only); (try k_fold))
  simp only [List.reverse_cons, List.reverse_nil, List.nil_append, List.cons_append] at F'
  refine Mine.gen_toks (fun tk0 => ?_)
  repeat' (first | ((with_reducible show wpAny _ _ (subscriptTail (PySem.Expr.List _ _) _ (Value.ref _) (Value.int _ _)) _ _ _); k_here; k_dflt (refine' Mine.item_tab ?tN9 ?tm9 ?ta9 ?tb9 ?_; (case tN9 => k_asm); (case tm9 => k_mem); (case ta9 => first | assumption | omega); (case tb9 => first | assumption | omega)); intro tI; (try dsimp only)) | ((with_reducible show Mine.JoinQ _ _ _ _ _ _ _ _ _); first | exact Mine.jq_keep (by assumption) (by assumption) (by unfold Mine.dlen Mine.leap Mine.tab; simp only [decide_eq_true_eq]; split <;> omega) | exact Mine.jq_set (by assumption) (by assumption) (by unfold Mine.dlen Mine.leap Mine.tab; simp only [decide_eq_true_eq]; split <;> omega)) | ((with_reducible show wpAny _ _ (PySem.exec (Stmt.If (Expr.BoolOp BoolOp.And _ _) _ _ _) _) _ _ _); (fail_if_success (with_reducible show wpAny _ _ _ (Mine.JoinQ _ _ _ _ _ _ _) _ _)); refine Mine.join_int (by assumption) (by assumption) (Mine.dlen y mo) ?_ ?_; rotate_left; intro hJ tJ kJ FJ NJ; (try dsimp only); (try k_sweep)) | (k_here; (with_reducible show wpAny _ _ (PySem.call (Value.ref 38) [Value.int _ _, Value.int _ _, Value.int _ _]) _ _ _); k_dflt (refine' c_time ?k1 ?k2 ?k3 ?k4 ?k5 ?k6 ?k7 ?k8 ?vok ?_; (case k1 => k_asm); (case k2 => k_asm); (case k3 => k_asm); (case k4 => k_asm); (case k5 => k_asm); (case k6 => first | assumption | exact rfl); (case k7 => k_room); (case k8 => k_units); (case vok => first | assumption | (unfold Mine.TimeOk; omega)); intro xT dT h' tk' q1 q2 q3 F' N' lT1 lT2; (have eT1 := lT1); (have eT2 := lT2); (try k_lt eT1); (try k_lt2 eT2); (try dsimp only); (try k_sweep); (try k_fold))) | (k_unfold; (try dsimp only)) | (k_end; wrow_close) | walk1 | (dsimp only; walk1) | (leave1; walk_say "STEP leave1"; try dsimp only) | fail "no step")
  all_goals (refine' hret x' d' _ _ _ _ _ _ _ _ ?f ?n l1 l2; (case n => (refine' Mine.news_drop ?nN ?nS; (case nN => assumption); (case nS => (refine' List.forall_mem_cons.mpr ⟨?ma, List.forall_mem_cons.mpr ⟨?mb, ?mc⟩⟩; (case ma => k_mem); (case mb => k_mem); (case mc => (intro p hp; repeat (first | exact hp | refine List.mem_cons_of_mem _ ?_))))))); (case f => assumption))

theorem c_date {w : World} {mean : ExcName → Option Value} {mg mb : Str → Option Value} {dp un : Nat} {gd : Option (List Code)} {cn : Str} {cs : Scope} {a : Addr} {ccd : Value} {cl : List (Str × Addr)} {outer : List Env} {A₀ : Around} {base h₀ : Heap} {L : Addr} {m : Str → Option Value} {s : Shared} {Q E : Value → Shared → Prop} {news : List (Addr × Obj)} {hd : Option Value} {y mo d h mi se : Int} {t1 t2 t3 t4 t5 t6 : Tok}
    (B : Below A₀ base outer h₀) (F : Fr h₀ L s.heap m) (X : (Mine.Lt.names.heap_1 w.params).In h₀) (N : News h₀ L s.heap news) (T : Top topProg (Mine.LoOf Mine.Lt.names.view_1) mean mg mb h₀) (hk : cs.kind = .function) (hdp : dp + 20 < recursionLimit) (hun : un + 20 * 10 < cLine)
    (okt : Mine.TimeOk h mi se) (okd : Mine.DateOk y mo d)
    (hret : ∀ (x dx : Addr) (h' : Heap) (tk k1 k2 k3 k4 k5 k6 : Nat), Fr h₀ L h' m → News h₀ L h' ((x, instObj 104 dx) :: (dx, dictOf [Mine.ent w "year" k1 (.int y t4), Mine.ent w "month" k2 (.int mo t5), Mine.ent w "day" k3 (.int d t6), Mine.ent w "hour" k4 (.int h t1), Mine.ent w "minute" k5 (.int mi t2), Mine.ent w "second" k6 (.int se t3)] 6) :: news) → (∀ p ∈ news, p.1 < dx) → dx < x → Q (.ref x) { s with heap := h', toks := tk }) :
    wpAny (model PySem.Challenge.rw_iw0015_01.row.prog w) (Mine.aTop hd dp un gd cn cs L a ccd cl outer) (call (.ref 104) [.int y t4, .int mo t5, .int d t6, .int h t1, .int mi t2, .int se t3]) Q E s := by
  revert X; k_fill; intro X
  obtain ⟨sh9, sg9, sd9, st9, so9⟩ := s; (try dsimp only at F N); (try dsimp only at hret); (try dsimp only at hno)
  refine' datec (pos := [.int y t4, .int mo t5, .int d t6, .int h t1, .int mi t2, .int se t3])  B F X N T hk hdp hun okt okd ?hbd1 hret
  case hbd1 => (refine Mine.bind_of_lookup (by k_is) ?_; intro s x hX; first | exact BindsTo.of_eq rfl | exact binds_K hX rfl (by k_is) rfl rfl rfl)

theorem datec_bad {w : World} {mean : ExcName → Option Value} {mg mb : Str → Option Value} {dp un : Nat} {gd : Option (List Code)} {cn : Str} {cs : Scope} {a : Addr} {ccd : Value} {cl : List (Str × Addr)} {outer : List Env} {A₀ : Around} {base h₀ : Heap} {L : Addr} {m : Str → Option Value} {s : Shared} {Q E : Value → Shared → Prop} {news : List (Addr × Obj)} {y mo d h mi se : Int} {t1 t2 t3 t4 t5 t6 : Tok} {pos : List Value}
    (B : Below A₀ base outer h₀) (F : Fr h₀ L s.heap m) (X : (Mine.Lt.names.heap_1 w.params).In h₀) (N : News h₀ L s.heap news) (T : Top topProg (Mine.LoOf Mine.Lt.names.view_1) mean mg mb h₀) (hk : cs.kind = .function) (hdp : dp + 20 < recursionLimit) (hun : un + 20 * 10 < cLine)
    (bad : ¬ (Mine.DateOk y mo d ∧ Mine.TimeOk h mi se)) (hb : ∀ (oc : Value) (od : Option Addr) (fd : FuncData) (osl : Array (Option Value)), (Mine.Lt.names.heap_1 w.params).lookup 57 = some ⟨oc, od, .func fd, osl⟩ → ∀ (s : Shared) (x : Addr), (Mine.Lt.names.heap_1 w.params).In s.heap → BindsTo s fd ⟨.ref x :: pos, []⟩ [((Str.ofString "self"), .ref x), ((Str.ofString "year"), .int y t4), ((Str.ofString "month"), .int mo t5), ((Str.ofString "day"), .int d t6), ((Str.ofString "hour"), .int h t1), ((Str.ofString "minute"), .int mi t2), ((Str.ofString "second"), .int se t3)])
    (hexc : ∀ (g h' : Heap) (e t : Addr) (vs : List Value) (tk : Nat), Fr h₀ L g m → g.UpToSlots h' → RaisedS base g (envX cn cs L a ccd cl :: outer) e (.type "ValueError") t vs news h' → RaisedK base (envX cn cs L a ccd cl :: outer) e (.type "ValueError") t vs news h' → E (.ref e) { s with heap := h', toks := tk }) :
    wpAny (model PySem.Challenge.rw_iw0015_01.row.prog w) (Mine.aTop none dp un gd cn cs L a ccd cl outer) (call (.ref 104) pos) Q E s := by
  by_cases okd : Mine.DateOk y mo d
  · have bad1 : ¬ Mine.TimeOk h mi se := fun q => bad ⟨okd, q⟩
    have okd' := okd
    obtain ⟨w1, w2, w3, w4, w5, w6⟩ := okd'
    revert X; k_fill; intro X
    obtain ⟨sh9, sg9, sd9, st9, so9⟩ := s; (try dsimp only at F N); (try dsimp only at hret); (try dsimp only at hno)
    (k_here; k_dflt ((refine' call_cls ?k1 ?k2 ?k3 ?k4 ?k5 ?k6 ?_; (case k1 => k_asm); (case k2 => k_asm); (case k3 => k_asm); (case k4 => k_is); (case k5 => k_is); (case k6 => k_is); k_whole; intro x' d' hN F₁ N₁ l1 l2; (have l1' := l1); (have l2' := l2); (try k_lt l1'); (try k_lt2 l2'); (try k_sweep))))
    k_dflt (refine' code_def (binds := [((Str.ofString "self"), .ref x'), ((Str.ofString "year"), .int y t4), ((Str.ofString "month"), .int mo t5), ((Str.ofString "day"), .int d t6), ((Str.ofString "hour"), .int h t1), ((Str.ofString "minute"), .int mi t2), ((Str.ofString "second"), .int se t3)]) ?k1 ?k2 ?k3 ?k4 ?k5 ?kA ?kF ?kK ?k6 ?k7 ?k8 ?k9 ?kB ?_ ?c2 ?c3 ?c4 ?c5; (case kA => exact rfl); (case kF => exact rfl); (case kK => first | assumption | exact rfl); (case k1 => k_asm); (case k2 => k_asm); (case k3 => k_asm); (case k4 => k_asm); (case k5 => k_asm); (case k6 => k_is); (case k7 => k_is); (case k8 => k_room); (case k9 => first | exact hb _ _ _ _ (by k_is) _ _ (by k_in) | exact BindsTo.of_eq rfl | exact binds_K (by k_in) rfl (by k_is) rfl rfl rfl); (case c5 => decide); (case kB => exact locs rfl); (case c2 => exact rfl); (case c3 => exact rfl); (case c4 => exact rfl); k_whole; intro g' L' h' FG' F' N' B' X' T'; (try dsimp only); (try k_fold))
    simp only [List.reverse_cons, List.reverse_nil, List.nil_append, List.cons_append] at F'
    refine Mine.gen_toks (fun tk0 => ?_)
    repeat' (first | ((with_reducible show wpAny _ _ (subscriptTail (PySem.Expr.List _ _) _ (Value.ref _) (Value.int _ _)) _ _ _); k_here; k_dflt (refine' Mine.item_tab ?tN9 ?tm9 ?ta9 ?tb9 ?_; (case tN9 => k_asm); (case tm9 => k_mem); (case ta9 => first | assumption | omega); (case tb9 => first | assumption | omega)); intro tI; (try dsimp only)) | ((with_reducible show Mine.JoinQ _ _ _ _ _ _ _ _ _); first | exact Mine.jq_keep (by assumption) (by assumption) (by unfold Mine.dlen Mine.leap Mine.tab; simp only [decide_eq_true_eq]; split <;> omega) | exact Mine.jq_set (by assumption) (by assumption) (by unfold Mine.dlen Mine.leap Mine.tab; simp only [decide_eq_true_eq]; split <;> omega)) | ((with_reducible show wpAny _ _ (PySem.exec (Stmt.If (Expr.BoolOp BoolOp.And _ _) _ _ _) _) _ _ _); (fail_if_success (with_reducible show wpAny _ _ _ (Mine.JoinQ _ _ _ _ _ _ _) _ _)); refine Mine.join_int (by assumption) (by assumption) (Mine.dlen y mo) ?_ ?_; rotate_left; intro hJ tJ kJ FJ NJ; (try dsimp only); (try k_sweep)) | (k_here; (with_reducible show wpAny _ _ (PySem.call (Value.ref 38) [Value.int _ _, Value.int _ _, Value.int _ _]) _ _ _); k_dflt (refine' c_time_bad ?k1 ?k2 ?k3 ?k4 ?k5 ?k6 ?k7 ?k8 ?vbad ?_; (case k1 => k_asm); (case k2 => k_asm); (case k3 => k_asm); (case k4 => k_asm); (case k5 => k_asm); (case k6 => first | assumption | exact rfl); (case k7 => k_room); (case k8 => k_units); (case vbad => assumption); intro gE hE eE tE vE tkE FE UE SE RE; (try dsimp only); (try k_sweep); (try k_fold))) | ((with_reducible show wpAny _ _ (PySem.leaving _ (Value.ref _)) _ _ _); k_here; first | (refine' leave_raiseS ?k1 ?k0 ?k2 ?k3 ?_; (case k0 => first | assumption | exact Heap.MadeExc.of (by assumption)); (case k2 => assumption); (case k1 => assumption); (case k3 => k_asm); k_whole; intro h' t' S' R' U'; (try dsimp only at S' R' U' ⊢)) | (refine' leave_onS ?k1 ?k2 ?k3 ?k4 ?_; (case k3 => assumption); (case k2 => assumption); (case k1 => assumption); (case k4 => assumption); k_whole; intro h' S' R' U'; (try dsimp only at S' R' U' ⊢))) | (k_unfold; (try dsimp only)) | (k_end; wrow_close) | walk1 | (dsimp only; walk1) | (leave1; walk_say "STEP leave1"; try dsimp only) | fail "no step")
    all_goals (try dsimp only [InitBack])
    all_goals first | (exfalso; omega) | exact hexc _ _ _ _ _ _ (by assumption) (by assumption) (Mine.raisedS_sub (by assumption) (by intro p hp; repeat (first | exact hp | refine List.mem_cons_of_mem _ ?_))) (Mine.raised_sub (by assumption) (by intro p hp; repeat (first | exact hp | refine List.mem_cons_of_mem _ ?_)))
  · have bd : ¬ (1 ≤ y ∧ y ≤ 9999 ∧ 1 ≤ mo ∧ mo ≤ 12 ∧ 1 ≤ d) ∨ ¬ d ≤ Mine.dlen y mo := by unfold Mine.DateOk at okd; omega
    revert X; k_fill; intro X
    obtain ⟨sh9, sg9, sd9, st9, so9⟩ := s; (try dsimp only at F N); (try dsimp only at hret); (try dsimp only at hno)
    (k_here; k_dflt ((refine' call_cls ?k1 ?k2 ?k3 ?k4 ?k5 ?k6 ?_; (case k1 => k_asm); (case k2 => k_asm); (case k3 => k_asm); (case k4 => k_is); (case k5 => k_is); (case k6 => k_is); k_whole; intro x' d' hN F₁ N₁ l1 l2; (have l1' := l1); (have l2' := l2); (try k_lt l1'); (try k_lt2 l2'); (try k_sweep))))
    k_dflt (refine' code_def (binds := [((Str.ofString "self"), .ref x'), ((Str.ofString "year"), .int y t4), ((Str.ofString "month"), .int mo t5), ((Str.ofString "day"), .int d t6), ((Str.ofString "hour"), .int h t1), ((Str.ofString "minute"), .int mi t2), ((Str.ofString "second"), .int se t3)]) ?k1 ?k2 ?k3 ?k4 ?k5 ?kA ?kF ?kK ?k6 ?k7 ?k8 ?k9 ?kB ?_ ?c2 ?c3 ?c4 ?c5; (case kA => exact rfl); (case kF => exact rfl); (case kK => first | assumption | exact rfl); (case k1 => k_asm); (case k2 => k_asm); (case k3 => k_asm); (case k4 => k_asm); (case k5 => k_asm); (case k6 => k_is); (case k7 => k_is); (case k8 => k_room); (case k9 => first | exact hb _ _ _ _ (by k_is) _ _ (by k_in) | exact BindsTo.of_eq rfl | exact binds_K (by k_in) rfl (by k_is) rfl rfl rfl); (case c5 => decide); (case kB => exact locs rfl); (case c2 => exact rfl); (case c3 => exact rfl); (case c4 => exact rfl); k_whole; intro g' L' h' FG' F' N' B' X' T'; (try dsimp only); (try k_fold))
    simp only [List.reverse_cons, List.reverse_nil, List.nil_append, List.cons_append] at F'
    refine Mine.gen_toks (fun tk0 => ?_)
    repeat' (first | ((with_reducible show wpAny _ _ (subscriptTail (PySem.Expr.List _ _) _ (Value.ref _) (Value.int _ _)) _ _ _); k_here; k_dflt (refine' Mine.item_tab ?tN9 ?tm9 ?ta9 ?tb9 ?_; (case tN9 => k_asm); (case tm9 => k_mem); (case ta9 => first | assumption | omega); (case tb9 => first | assumption | omega)); intro tI; (try dsimp only)) | ((with_reducible show Mine.JoinQ _ _ _ _ _ _ _ _ _); first | exact Mine.jq_keep (by assumption) (by assumption) (by unfold Mine.dlen Mine.leap Mine.tab; simp only [decide_eq_true_eq]; split <;> omega) | exact Mine.jq_set (by assumption) (by assumption) (by unfold Mine.dlen Mine.leap Mine.tab; simp only [decide_eq_true_eq]; split <;> omega)) | ((with_reducible show wpAny _ _ (PySem.exec (Stmt.If (Expr.BoolOp BoolOp.And _ _) _ _ _) _) _ _ _); (fail_if_success (with_reducible show wpAny _ _ _ (Mine.JoinQ _ _ _ _ _ _ _) _ _)); refine Mine.join_int (by assumption) (by assumption) (Mine.dlen y mo) ?_ ?_; rotate_left; intro hJ tJ kJ FJ NJ; (try dsimp only); (try k_sweep)) | ((with_reducible show wpAny _ _ (PySem.leaving _ (Value.ref _)) _ _ _); k_here; first | (refine' leave_raiseS ?k1 ?k0 ?k2 ?k3 ?_; (case k0 => first | assumption | exact Heap.MadeExc.of (by assumption)); (case k2 => assumption); (case k1 => assumption); (case k3 => k_asm); k_whole; intro h' t' S' R' U'; (try dsimp only at S' R' U' ⊢)) | (refine' leave_onS ?k1 ?k2 ?k3 ?k4 ?_; (case k3 => assumption); (case k2 => assumption); (case k1 => assumption); (case k4 => assumption); k_whole; intro h' S' R' U'; (try dsimp only at S' R' U' ⊢))) | (k_unfold; (try dsimp only)) | (k_end; wrow_close) | walk1 | (dsimp only; walk1) | (leave1; walk_say "STEP leave1"; try dsimp only) | fail "no step")
    all_goals first | (exfalso; omega) | exact hexc _ _ _ _ _ _ (by assumption) (by assumption) (Mine.raisedS_sub (by assumption) (by intro p hp; repeat (first | exact hp | refine List.mem_cons_of_mem _ ?_))) (Mine.raised_sub (by assumption) (by intro p hp; repeat (first | exact hp | refine List.mem_cons_of_mem _ ?_)))

theorem c_date_bad {w : World} {mean : ExcName → Option Value} {mg mb : Str → Option Value} {dp un : Nat} {gd : Option (List Code)} {cn : Str} {cs : Scope} {a : Addr} {ccd : Value} {cl : List (Str × Addr)} {outer : List Env} {A₀ : Around} {base h₀ : Heap} {L : Addr} {m : Str → Option Value} {s : Shared} {Q E : Value → Shared → Prop} {news : List (Addr × Obj)} {y mo d h mi se : Int} {t1 t2 t3 t4 t5 t6 : Tok}
    (B : Below A₀ base outer h₀) (F : Fr h₀ L s.heap m) (X : (Mine.Lt.names.heap_1 w.params).In h₀) (N : News h₀ L s.heap news) (T : Top topProg (Mine.LoOf Mine.Lt.names.view_1) mean mg mb h₀) (hk : cs.kind = .function) (hdp : dp + 20 < recursionLimit) (hun : un + 20 * 10 < cLine)
    (bad : ¬ (Mine.DateOk y mo d ∧ Mine.TimeOk h mi se))
    (hexc : ∀ (g h' : Heap) (e t : Addr) (vs : List Value) (tk : Nat), Fr h₀ L g m → g.UpToSlots h' → RaisedS base g (envX cn cs L a ccd cl :: outer) e (.type "ValueError") t vs news h' → RaisedK base (envX cn cs L a ccd cl :: outer) e (.type "ValueError") t vs news h' → E (.ref e) { s with heap := h', toks := tk }) :
    wpAny (model PySem.Challenge.rw_iw0015_01.row.prog w) (Mine.aTop none dp un gd cn cs L a ccd cl outer) (call (.ref 104) [.int y t4, .int mo t5, .int d t6, .int h t1, .int mi t2, .int se t3]) Q E s := by
  revert X; k_fill; intro X
  obtain ⟨sh9, sg9, sd9, st9, so9⟩ := s; (try dsimp only at F N); (try dsimp only at hret); (try dsimp only at hno)
  refine' datec_bad (pos := [.int y t4, .int mo t5, .int d t6, .int h t1, .int mi t2, .int se t3])  B F X N T hk hdp hun bad ?hbd3 hexc
  case hbd3 => (refine Mine.bind_of_lookup (by k_is) ?_; intro s x hX; first | exact BindsTo.of_eq rfl | exact binds_K hX rfl (by k_is) rfl rfl rfl)

theorem c_date3 {w : World} {mean : ExcName → Option Value} {mg mb : Str → Option Value} {dp un : Nat} {gd : Option (List Code)} {cn : Str} {cs : Scope} {a : Addr} {ccd : Value} {cl : List (Str × Addr)} {outer : List Env} {A₀ : Around} {base h₀ : Heap} {L : Addr} {m : Str → Option Value} {s : Shared} {Q E : Value → Shared → Prop} {news : List (Addr × Obj)} {hd : Option Value} {y mo d : Int} {t4 t5 t6 : Tok}
    (B : Below A₀ base outer h₀) (F : Fr h₀ L s.heap m) (X : (Mine.Lt.names.heap_1 w.params).In h₀) (N : News h₀ L s.heap news) (T : Top topProg (Mine.LoOf Mine.Lt.names.view_1) mean mg mb h₀) (hk : cs.kind = .function) (hdp : dp + 20 < recursionLimit) (hun : un + 20 * 10 < cLine)
    (okd : Mine.DateOk y mo d)
    (hret : ∀ (x dx : Addr) (h' : Heap) (tk k1 k2 k3 k4 k5 k6 u1 u2 u3 : Nat), Fr h₀ L h' m → News h₀ L h' ((x, instObj 104 dx) :: (dx, dictOf [Mine.ent w "year" k1 (.int y t4), Mine.ent w "month" k2 (.int mo t5), Mine.ent w "day" k3 (.int d t6), Mine.ent w "hour" k4 (.int 0 u1), Mine.ent w "minute" k5 (.int 0 u2), Mine.ent w "second" k6 (.int 0 u3)] 6) :: news) → (∀ p ∈ news, p.1 < dx) → dx < x → Q (.ref x) { s with heap := h', toks := tk }) :
    wpAny (model PySem.Challenge.rw_iw0015_01.row.prog w) (Mine.aTop hd dp un gd cn cs L a ccd cl outer) (call (.ref 104) [.int y t4, .int mo t5, .int d t6]) Q E s := by
  revert X; k_fill; intro X
  obtain ⟨sh9, sg9, sd9, st9, so9⟩ := s; (try dsimp only at F N); (try dsimp only at hret); (try dsimp only at hno)
  refine' datec (pos := [.int y t4, .int mo t5, .int d t6]) (t1 := 241) (t2 := 242) (t3 := 243) (h := 0) (mi := 0) (se := 0) B F X N T hk hdp hun Mine.zero_ok okd ?hbd2 (fun x dx h' tk k1 k2 k3 k4 k5 k6 => hret x dx h' tk k1 k2 k3 k4 k5 k6 241 242 243)
  case hbd2 => (refine Mine.bind_of_lookup (by k_is) ?_; intro s x hX; first | exact BindsTo.of_eq rfl | exact binds_K hX rfl (by k_is) rfl rfl rfl)

theorem c_date3_bad {w : World} {mean : ExcName → Option Value} {mg mb : Str → Option Value} {dp un : Nat} {gd : Option (List Code)} {cn : Str} {cs : Scope} {a : Addr} {ccd : Value} {cl : List (Str × Addr)} {outer : List Env} {A₀ : Around} {base h₀ : Heap} {L : Addr} {m : Str → Option Value} {s : Shared} {Q E : Value → Shared → Prop} {news : List (Addr × Obj)} {y mo d : Int} {t4 t5 t6 : Tok}
    (B : Below A₀ base outer h₀) (F : Fr h₀ L s.heap m) (X : (Mine.Lt.names.heap_1 w.params).In h₀) (N : News h₀ L s.heap news) (T : Top topProg (Mine.LoOf Mine.Lt.names.view_1) mean mg mb h₀) (hk : cs.kind = .function) (hdp : dp + 20 < recursionLimit) (hun : un + 20 * 10 < cLine)
    (bad : ¬ Mine.DateOk y mo d)
    (hexc : ∀ (g h' : Heap) (e t : Addr) (vs : List Value) (tk : Nat), Fr h₀ L g m → g.UpToSlots h' → RaisedS base g (envX cn cs L a ccd cl :: outer) e (.type "ValueError") t vs news h' → RaisedK base (envX cn cs L a ccd cl :: outer) e (.type "ValueError") t vs news h' → E (.ref e) { s with heap := h', toks := tk }) :
    wpAny (model PySem.Challenge.rw_iw0015_01.row.prog w) (Mine.aTop none dp un gd cn cs L a ccd cl outer) (call (.ref 104) [.int y t4, .int mo t5, .int d t6]) Q E s := by
  revert X; k_fill; intro X
  obtain ⟨sh9, sg9, sd9, st9, so9⟩ := s; (try dsimp only at F N); (try dsimp only at hret); (try dsimp only at hno)
  refine' datec_bad (pos := [.int y t4, .int mo t5, .int d t6]) (t1 := 241) (t2 := 242) (t3 := 243) (h := 0) (mi := 0) (se := 0) B F X N T hk hdp hun (fun q => bad q.1) ?hbd4 hexc
  case hbd4 => (refine Mine.bind_of_lookup (by k_is) ?_; intro s x hX; first | exact BindsTo.of_eq rfl | exact binds_K hX rfl (by k_is) rfl rfl rfl)

theorem d_date {w : World} {mean : ExcName → Option Value} {mg mb : Str → Option Value} {dp un : Nat} {gd : Option (List Code)} {cn : Str} {cs : Scope} {a : Addr} {ccd : Value} {cl : List (Str × Addr)} {outer : List Env} {A₀ : Around} {base h₀ : Heap} {L : Addr} {m : Str → Option Value} {s : Shared} {Q E : Value → Shared → Prop} {news : List (Addr × Obj)} {z : Int} {t : Tok}
    (B : Below A₀ base outer h₀) (F : Fr h₀ L s.heap m) (X : (Mine.Lt.names.heap_1 w.params).In h₀) (N : News h₀ L s.heap news) (T : Top topProg (Mine.LoOf Mine.Lt.names.view_1) mean mg mb h₀) (hk : cs.kind = .function) (hdp : dp + 30 < recursionLimit) (hun : un + 30 * 10 < cLine) (XB : (Mine.Lt.names.heap_1 w.params).In base) (TB : Top topProg (Mine.LoOf Mine.Lt.names.view_1) mean mg mb base) (D : KtsDicts (outer.filterMap (·.frame)) h₀)
    
    (hret : ∀ (hZ : Heap) (x dx : Addr) (h' : Heap) (tk k1 k2 k3 k4 k5 k6 u1 u2 u3 u4 u5 u6 : Nat), KtsTurn (outer.filterMap (·.frame)) h₀ hZ → Fr hZ L h' m → News hZ L h' ((x, instObj 104 dx) :: (dx, dictOf [Mine.ent w "year" k1 (.int (Mine.dY z) u1), Mine.ent w "month" k2 (.int (Mine.dM z) u2), Mine.ent w "day" k3 (.int (Mine.dD z) u3), Mine.ent w "hour" k4 (.int 0 u4), Mine.ent w "minute" k5 (.int 0 u5), Mine.ent w "second" k6 (.int 0 u6)] 6) :: news) → Below A₀ base outer hZ → (Mine.Lt.names.heap_1 w.params).In hZ → Top topProg (Mine.LoOf Mine.Lt.names.view_1) mean mg mb hZ → KtsDicts (outer.filterMap (·.frame)) hZ → (∀ p ∈ news, p.1 < dx) → dx < x → Q (.ref x) { s with heap := h', toks := tk }) :
    wpAny (model PySem.Challenge.rw_iw0015_01.row.prog w) (Mine.aTop none dp un gd cn cs L a ccd cl outer) (call (.ref 88) [.int z t]) Q E s := by
  revert X; k_fill; intro X
  obtain ⟨sh9, sg9, sd9, st9, so9⟩ := s; (try dsimp only at F N); (try dsimp only at hret); (try dsimp only at hno)
  refine wpAny_call ?_
  k_dflt (refine' Mine.code_defT (binds := [((Str.ofString "dt"), .int z t)]) ?k1 ?k2 ?k3 ?k4 ?k5 ?XB ?TB ?D ?T0 ?kA ?kF ?cK ?k6 ?k7 ?k8 ?k9 ?kB ?_ ?c2 ?c3 ?c4 ?c5; (case kA => exact rfl); (case kF => exact rfl); (case k2 => k_asm); (case k1 => k_asm); (case XB => assumption); (case TB => assumption); (case D => assumption); (case T0 => exact KtsTurn.refl); (case k3 => k_asm); (case k4 => k_asm); (case k5 => k_asm); (case k6 => k_is); (case k7 => k_is); (case k8 => k_room); (case k9 => first | exact BindsTo.of_eq rfl | exact binds_K (by k_in) rfl (by k_is) rfl rfl rfl); (case kB => exact locs rfl); (case cK => first | assumption | exact rfl); (case c2 => exact rfl); (case c3 => exact rfl); (case c4 => exact rfl); (case c5 => decide); k_whole; intro g' L' h' FG' F' N' B' X' T' D'; (try dsimp only); (try k_fold))
  simp only [List.reverse_cons, List.reverse_nil, List.nil_append, List.cons_append] at F'
  refine Mine.gen_toks (fun tk0 => ?_)
  repeat' (first | (k_here; (with_reducible show wpAny _ _ (PySem.call (Value.ref 104) [Value.int _ _, Value.int _ _, Value.int _ _]) _ _ _); k_dflt (refine' c_date3 ?k1 ?k2 ?k3 ?k4 ?k5 ?k6 ?k7 ?k8 ?vokd ?_; (case k1 => k_asm); (case k2 => k_asm); (case k3 => k_asm); (case k4 => k_asm); (case k5 => k_asm); (case k6 => first | assumption | exact rfl); (case k7 => k_room); (case k8 => k_units); (case vokd => first | assumption | exact Mine.first_ok); intro x' d' h' tk' q1 q2 q3 q4 q5 q6 z1 z2 z3 F' N' l1 l2; (have e1 := l1); (have e2 := l2); (try k_lt e1); (try k_lt2 e2); (try dsimp only); (try k_sweep); (try k_fold))) | (k_here; (with_reducible show wpAny _ _ (PySem.call (Value.ref 104) [Value.int _ _, Value.int _ _, Value.int _ _]) _ _ _); k_dflt (refine' c_date3_bad ?k1 ?k2 ?k3 ?k4 ?k5 ?k6 ?k7 ?k8 ?vbad ?_; (case k1 => k_asm); (case k2 => k_asm); (case k3 => k_asm); (case k4 => k_asm); (case k5 => k_asm); (case k6 => first | assumption | exact rfl); (case k7 => k_room); (case k8 => k_units); (case vbad => assumption); intro gE hE eE tE vE tkE FE UE SE RE; (try dsimp only); (try k_sweep); (try k_fold))) | ((with_reducible show wpAny _ _ (PySem.call (Value.ref 104) [Value.int _ _, Value.int _ _, Value.int _ _]) _ _ _); refine Mine.date_split (z := z) (by simp only [Mine.sh9, Mine.sh5, Mine.sh11, Mine.bits7, Mine.bits6, Mine.bits5, Mine.bits4]; rfl) (by simp only [Mine.sh9, Mine.sh5, Mine.sh11, Mine.bits7, Mine.bits6, Mine.bits5, Mine.bits4]; rfl) (by simp only [Mine.sh9, Mine.sh5, Mine.sh11, Mine.bits7, Mine.bits6, Mine.bits5, Mine.bits4]; rfl) ?_ ?_ <;> intro hOK) | (k_unfold; (try dsimp only)) | (k_end; wrow_close) | walk1 | (dsimp only; walk1) | (leave1; walk_say "STEP leave1"; try dsimp only) | fail "no step")
  all_goals first | (have yy := Mine.d_ok (z := z) (by assumption); simp only [yy.1, yy.2.1, yy.2.2] at hret) | (have yy := Mine.d_bad (z := z) (by assumption); simp only [yy.1, yy.2.1, yy.2.2] at hret)
  all_goals (refine' hret _ x' d' _ _ _ _ _ _ _ _ _ _ _ _ _ _  ?zt ?zf ?zn ?zb ?zx ?zp ?zd (fun p hp => l1 p (by repeat (first | exact hp | refine List.mem_cons_of_mem _ ?_))) l2; (case zf => assumption); (case zn => (refine' Mine.news_drop ?nN ?nS; (case nN => assumption); (case nS => (refine' List.forall_mem_cons.mpr ⟨?ma, List.forall_mem_cons.mpr ⟨?mb, ?mc⟩⟩; (case ma => k_mem); (case mb => k_mem); (case mc => (intro p hp; repeat (first | exact hp | refine List.mem_cons_of_mem _ ?_))))))); (case zt => first | assumption | exact KtsTurn.refl); (case zb => assumption); (case zx => assumption); (case zp => assumption); (case zd => assumption))

theorem d_time {w : World} {mean : ExcName → Option Value} {mg mb : Str → Option Value} {dp un : Nat} {gd : Option (List Code)} {cn : Str} {cs : Scope} {a : Addr} {ccd : Value} {cl : List (Str × Addr)} {outer : List Env} {A₀ : Around} {base h₀ : Heap} {L : Addr} {m : Str → Option Value} {s : Shared} {Q E : Value → Shared → Prop} {news : List (Addr × Obj)} {z : Int} {t : Tok}
    (B : Below A₀ base outer h₀) (F : Fr h₀ L s.heap m) (X : (Mine.Lt.names.heap_1 w.params).In h₀) (N : News h₀ L s.heap news) (T : Top topProg (Mine.LoOf Mine.Lt.names.view_1) mean mg mb h₀) (hk : cs.kind = .function) (hdp : dp + 30 < recursionLimit) (hun : un + 30 * 10 < cLine) (XB : (Mine.Lt.names.heap_1 w.params).In base) (TB : Top topProg (Mine.LoOf Mine.Lt.names.view_1) mean mg mb base) (D : KtsDicts (outer.filterMap (·.frame)) h₀)
    
    (hret : ∀ (hZ : Heap) (x dx : Addr) (h' : Heap) (tk k1 k2 k3 u1 u2 u3 : Nat), KtsTurn (outer.filterMap (·.frame)) h₀ hZ → Fr hZ L h' m → News hZ L h' ((x, instObj 38 dx) :: (dx, dictOf [Mine.ent w "hour" k1 (.int (Mine.tH z) u1), Mine.ent w "minute" k2 (.int (Mine.tM z) u2), Mine.ent w "second" k3 (.int (Mine.tS z) u3)] 3) :: news) → Below A₀ base outer hZ → (Mine.Lt.names.heap_1 w.params).In hZ → Top topProg (Mine.LoOf Mine.Lt.names.view_1) mean mg mb hZ → KtsDicts (outer.filterMap (·.frame)) hZ → (∀ p ∈ news, p.1 < dx) → dx < x → Q (.ref x) { s with heap := h', toks := tk }) :
    wpAny (model PySem.Challenge.rw_iw0015_01.row.prog w) (Mine.aTop none dp un gd cn cs L a ccd cl outer) (call (.ref 98) [.int z t]) Q E s := by
  revert X; k_fill; intro X
  obtain ⟨sh9, sg9, sd9, st9, so9⟩ := s; (try dsimp only at F N); (try dsimp only at hret); (try dsimp only at hno)
  refine wpAny_call ?_
  k_dflt (refine' Mine.code_defT (binds := [((Str.ofString "tm"), .int z t)]) ?k1 ?k2 ?k3 ?k4 ?k5 ?XB ?TB ?D ?T0 ?kA ?kF ?cK ?k6 ?k7 ?k8 ?k9 ?kB ?_ ?c2 ?c3 ?c4 ?c5; (case kA => exact rfl); (case kF => exact rfl); (case k2 => k_asm); (case k1 => k_asm); (case XB => assumption); (case TB => assumption); (case D => assumption); (case T0 => exact KtsTurn.refl); (case k3 => k_asm); (case k4 => k_asm); (case k5 => k_asm); (case k6 => k_is); (case k7 => k_is); (case k8 => k_room); (case k9 => first | exact BindsTo.of_eq rfl | exact binds_K (by k_in) rfl (by k_is) rfl rfl rfl); (case kB => exact locs rfl); (case cK => first | assumption | exact rfl); (case c2 => exact rfl); (case c3 => exact rfl); (case c4 => exact rfl); (case c5 => decide); k_whole; intro g' L' h' FG' F' N' B' X' T' D'; (try dsimp only); (try k_fold))
  simp only [List.reverse_cons, List.reverse_nil, List.nil_append, List.cons_append] at F'
  refine Mine.gen_toks (fun tk0 => ?_)
  repeat' (first | (k_here; (with_reducible show wpAny _ _ (PySem.call (Value.ref 38) [Value.int _ _, Value.int _ _, Value.int _ _]) _ _ _); k_dflt (refine' c_time ?k1 ?k2 ?k3 ?k4 ?k5 ?k6 ?k7 ?k8 ?vok ?_; (case k1 => k_asm); (case k2 => k_asm); (case k3 => k_asm); (case k4 => k_asm); (case k5 => k_asm); (case k6 => first | assumption | exact rfl); (case k7 => k_room); (case k8 => k_units); (case vok => first | assumption | exact Mine.zero_ok); intro x' d' h' tk' q1 q2 q3 F' N' l1 l2; (have e1 := l1); (have e2 := l2); (try k_lt e1); (try k_lt2 e2); (try dsimp only); (try k_sweep); (try k_fold))) | (k_here; (with_reducible show wpAny _ _ (PySem.call (Value.ref 38) [Value.int _ _, Value.int _ _, Value.int _ _]) _ _ _); k_dflt (refine' c_time_bad ?k1 ?k2 ?k3 ?k4 ?k5 ?k6 ?k7 ?k8 ?vbad ?_; (case k1 => k_asm); (case k2 => k_asm); (case k3 => k_asm); (case k4 => k_asm); (case k5 => k_asm); (case k6 => first | assumption | exact rfl); (case k7 => k_room); (case k8 => k_units); (case vbad => assumption); intro gE hE eE tE vE tkE FE UE SE RE; (try dsimp only); (try k_sweep); (try k_fold))) | ((with_reducible show wpAny _ _ (PySem.call (Value.ref 38) [Value.int _ _, Value.int _ _, Value.int _ _]) _ _ _); refine Mine.time_split (z := z) (by simp only [Mine.sh9, Mine.sh5, Mine.sh11, Mine.bits7, Mine.bits6, Mine.bits5, Mine.bits4]; rfl) (by simp only [Mine.sh9, Mine.sh5, Mine.sh11, Mine.bits7, Mine.bits6, Mine.bits5, Mine.bits4]; rfl) (by simp only [Mine.sh9, Mine.sh5, Mine.sh11, Mine.bits7, Mine.bits6, Mine.bits5, Mine.bits4]; rfl) ?_ ?_ <;> intro hOK) | (k_unfold; (try dsimp only)) | (k_end; wrow_close) | walk1 | (dsimp only; walk1) | (leave1; walk_say "STEP leave1"; try dsimp only) | fail "no step")
  all_goals first | (have yy := Mine.t_ok (z := z) (by assumption); simp only [yy.1, yy.2.1, yy.2.2] at hret) | (have yy := Mine.t_bad (z := z) (by assumption); simp only [yy.1, yy.2.1, yy.2.2] at hret)
  all_goals (refine' hret _ x' d' _ _ _ _ _ _ _ _  ?zt ?zf ?zn ?zb ?zx ?zp ?zd (fun p hp => l1 p (by repeat (first | exact hp | refine List.mem_cons_of_mem _ ?_))) l2; (case zf => assumption); (case zn => (refine' Mine.news_drop ?nN ?nS; (case nN => assumption); (case nS => (refine' List.forall_mem_cons.mpr ⟨?ma, List.forall_mem_cons.mpr ⟨?mb, ?mc⟩⟩; (case ma => k_mem); (case mb => k_mem); (case mc => (intro p hp; repeat (first | exact hp | refine List.mem_cons_of_mem _ ?_))))))); (case zt => first | assumption | exact KtsTurn.refl); (case zb => assumption); (case zx => assumption); (case zp => assumption); (case zd => assumption))

theorem s_date {w : World} {mean : ExcName → Option Value} {mg mb : Str → Option Value} {dp un : Nat} {gd : Option (List Code)} {cn : Str} {cs : Scope} {a : Addr} {ccd : Value} {cl : List (Str × Addr)} {outer : List Env} {A₀ : Around} {base h₀ : Heap} {L : Addr} {m : Str → Option Value} {s : Shared} {Q E : Value → Shared → Prop} {news : List (Addr × Obj)} {hd : Option Value} {x dx : Addr} {y mo d h mi se : Int} {k1 k2 k3 k4 k5 k6 t1 t2 t3 t4 t5 t6 : Tok}
    (B : Below A₀ base outer h₀) (F : Fr h₀ L s.heap m) (X : (Mine.Lt.names.heap_1 w.params).In h₀) (N : News h₀ L s.heap news) (T : Top topProg (Mine.LoOf Mine.Lt.names.view_1) mean mg mb h₀) (hk : cs.kind = .function) (hdp : dp + 20 < recursionLimit) (hun : un + 20 * 10 < cLine)
    (m1 : (x, instObj 104 dx) ∈ news) (m2 : (dx, dictOf [Mine.ent w "year" k1 (.int y t1), Mine.ent w "month" k2 (.int mo t2), Mine.ent w "day" k3 (.int d t3), Mine.ent w "hour" k4 (.int h t4), Mine.ent w "minute" k5 (.int mi t5), Mine.ent w "second" k6 (.int se t6)] 6) ∈ news) (okd : Mine.DateOk y mo d) (ge : 1980 ≤ y)
    (hret : ∀ (h' : Heap) (t tk : Nat), Fr h₀ L h' m → News h₀ L h' news → Q (.int ((y - 1980) * 512 + mo * 32 + d) t) { s with heap := h', toks := tk }) :
    wpAny (model PySem.Challenge.rw_iw0015_01.row.prog w) (Mine.aTop hd dp un gd cn cs L a ccd cl outer) (call (.ref 74) [.ref x]) Q E s := by
  have okd' := okd
  obtain ⟨w1, w2, w3, w4, w5, w6⟩ := okd'
  have w7 := Mine.dlen_le y mo
  revert X; k_fill; intro X
  obtain ⟨sh9, sg9, sd9, st9, so9⟩ := s; (try dsimp only at F N); (try dsimp only at hret); (try dsimp only at hno)
  refine wpAny_call ?_
  k_dflt (refine' code_def (binds := [((Str.ofString "self"), .ref x)]) ?k1 ?k2 ?k3 ?k4 ?k5 ?kA ?kF ?kK ?k6 ?k7 ?k8 ?k9 ?kB ?_ ?c2 ?c3 ?c4 ?c5; (case kA => exact rfl); (case kF => exact rfl); (case kK => first | assumption | exact rfl); (case k1 => k_asm); (case k2 => k_asm); (case k3 => k_asm); (case k4 => k_asm); (case k5 => k_asm); (case k6 => k_is); (case k7 => k_is); (case k8 => k_room); (case k9 => first | exact BindsTo.of_eq rfl | exact binds_K (by k_in) rfl (by k_is) rfl rfl rfl); (case c5 => decide); (case kB => exact locs rfl); (case c2 => exact rfl); (case c3 => exact rfl); (case c4 => exact rfl); k_whole; intro g' L' h' FG' F' N' B' X' T'; (try dsimp only); (try k_fold))
  simp only [List.reverse_cons, List.reverse_nil, List.nil_append, List.cons_append] at F'
  refine Mine.gen_toks (fun tk0 => ?_)
  repeat' (first | (k_unfold; (try dsimp only)) | (k_end; wrow_close) | walk1 | (dsimp only; walk1) | (leave1; walk_say "STEP leave1"; try dsimp only) | fail "no step")
  all_goals (rw [Mine.ser_date okd ge]; exact hret _ _ _ (by assumption) (by assumption))

theorem s_time {w : World} {mean : ExcName → Option Value} {mg mb : Str → Option Value} {dp un : Nat} {gd : Option (List Code)} {cn : Str} {cs : Scope} {a : Addr} {ccd : Value} {cl : List (Str × Addr)} {outer : List Env} {A₀ : Around} {base h₀ : Heap} {L : Addr} {m : Str → Option Value} {s : Shared} {Q E : Value → Shared → Prop} {news : List (Addr × Obj)} {hd : Option Value} {x dx : Addr} {y mo d h mi se : Int} {k1 k2 k3 k4 k5 k6 t1 t2 t3 t4 t5 t6 : Tok}
    (B : Below A₀ base outer h₀) (F : Fr h₀ L s.heap m) (X : (Mine.Lt.names.heap_1 w.params).In h₀) (N : News h₀ L s.heap news) (T : Top topProg (Mine.LoOf Mine.Lt.names.view_1) mean mg mb h₀) (hk : cs.kind = .function) (hdp : dp + 20 < recursionLimit) (hun : un + 20 * 10 < cLine)
    (m1 : (x, instObj 104 dx) ∈ news) (m2 : (dx, dictOf [Mine.ent w "year" k1 (.int y t1), Mine.ent w "month" k2 (.int mo t2), Mine.ent w "day" k3 (.int d t3), Mine.ent w "hour" k4 (.int h t4), Mine.ent w "minute" k5 (.int mi t5), Mine.ent w "second" k6 (.int se t6)] 6) ∈ news) (okt : Mine.TimeOk h mi se)
    (hret : ∀ (h' : Heap) (t tk : Nat), Fr h₀ L h' m → News h₀ L h' news → Q (.int (h * 2048 + mi * 32 + se / 2) t) { s with heap := h', toks := tk }) :
    wpAny (model PySem.Challenge.rw_iw0015_01.row.prog w) (Mine.aTop hd dp un gd cn cs L a ccd cl outer) (call (.ref 81) [.ref x]) Q E s := by
  have okt' := okt
  obtain ⟨w1, w2, w3, w4, w5, w6⟩ := okt'
  revert X; k_fill; intro X
  obtain ⟨sh9, sg9, sd9, st9, so9⟩ := s; (try dsimp only at F N); (try dsimp only at hret); (try dsimp only at hno)
  refine wpAny_call ?_
  k_dflt (refine' code_def (binds := [((Str.ofString "self"), .ref x)]) ?k1 ?k2 ?k3 ?k4 ?k5 ?kA ?kF ?kK ?k6 ?k7 ?k8 ?k9 ?kB ?_ ?c2 ?c3 ?c4 ?c5; (case kA => exact rfl); (case kF => exact rfl); (case kK => first | assumption | exact rfl); (case k1 => k_asm); (case k2 => k_asm); (case k3 => k_asm); (case k4 => k_asm); (case k5 => k_asm); (case k6 => k_is); (case k7 => k_is); (case k8 => k_room); (case k9 => first | exact BindsTo.of_eq rfl | exact binds_K (by k_in) rfl (by k_is) rfl rfl rfl); (case c5 => decide); (case kB => exact locs rfl); (case c2 => exact rfl); (case c3 => exact rfl); (case c4 => exact rfl); k_whole; intro g' L' h' FG' F' N' B' X' T'; (try dsimp only); (try k_fold))
  simp only [List.reverse_cons, List.reverse_nil, List.nil_append, List.cons_append] at F'
  refine Mine.gen_toks (fun tk0 => ?_)
  repeat' (first | (k_unfold; (try dsimp only)) | (k_end; wrow_close) | walk1 | (dsimp only; walk1) | (leave1; walk_say "STEP leave1"; try dsimp only) | fail "no step")
  all_goals (rw [Mine.ser_time okt]; exact hret _ _ _ (by assumption) (by assumption))

theorem comb {w : World} {mean : ExcName → Option Value} {mg mb : Str → Option Value} {dp un : Nat} {gd : Option (List Code)} {cn : Str} {cs : Scope} {a : Addr} {ccd : Value} {cl : List (Str × Addr)} {outer : List Env} {A₀ : Around} {base h₀ : Heap} {L : Addr} {m : Str → Option Value} {s : Shared} {Q E : Value → Shared → Prop} {news : List (Addr × Obj)} {hd : Option Value} {x dx z dz : Addr} {y mo d h mi se : Int} {k1 k2 k3 k7 k8 k9 t1 t2 t3 t4 t5 t6 : Tok} {v4 v5 v6 : Value} {k4 k5 k6 : Tok}
    (B : Below A₀ base outer h₀) (F : Fr h₀ L s.heap m) (X : (Mine.Lt.names.heap_1 w.params).In h₀) (N : News h₀ L s.heap news) (T : Top topProg (Mine.LoOf Mine.Lt.names.view_1) mean mg mb h₀) (hk : cs.kind = .function) (hdp : dp + 30 < recursionLimit) (hun : un + 30 * 10 < cLine)
    (m1 : (x, instObj 104 dx) ∈ news) (m2 : (dx, dictOf [Mine.ent w "year" k1 (.int y t1), Mine.ent w "month" k2 (.int mo t2), Mine.ent w "day" k3 (.int d t3), Mine.ent w "hour" k4 (v4), Mine.ent w "minute" k5 (v5), Mine.ent w "second" k6 (v6)] 6) ∈ news) (m3 : (z, instObj 38 dz) ∈ news) (m4 : (dz, dictOf [Mine.ent w "hour" k7 (.int h t4), Mine.ent w "minute" k8 (.int mi t5), Mine.ent w "second" k9 (.int se t6)] 3) ∈ news) (okt : Mine.TimeOk h mi se) (okd : Mine.DateOk y mo d)
    (hret : ∀ (xx dd : Addr) (h' : Heap) (tk q1 q2 q3 q4 q5 q6 : Nat), Fr h₀ L h' m → News h₀ L h' ((xx, instObj 104 dd) :: (dd, dictOf [Mine.ent w "year" q1 (.int y t1), Mine.ent w "month" q2 (.int mo t2), Mine.ent w "day" q3 (.int d t3), Mine.ent w "hour" q4 (.int h t4), Mine.ent w "minute" q5 (.int mi t5), Mine.ent w "second" q6 (.int se t6)] 6) :: news) → (∀ p ∈ news, p.1 < dd) → dd < xx → Q (.ref xx) { s with heap := h', toks := tk }) :
    wpAny (model PySem.Challenge.rw_iw0015_01.row.prog w) (Mine.aTop hd dp un gd cn cs L a ccd cl outer) (call (.ref 64) [.ref x, .ref z]) Q E s := by
  revert X; k_fill; intro X
  obtain ⟨sh9, sg9, sd9, st9, so9⟩ := s; (try dsimp only at F N); (try dsimp only at hret); (try dsimp only at hno)
  refine wpAny_call ?_
  k_dflt (refine' code_def (binds := [((Str.ofString "date"), .ref x), ((Str.ofString "time"), .ref z)]) ?k1 ?k2 ?k3 ?k4 ?k5 ?kA ?kF ?kK ?k6 ?k7 ?k8 ?k9 ?kB ?_ ?c2 ?c3 ?c4 ?c5; (case kA => exact rfl); (case kF => exact rfl); (case kK => first | assumption | exact rfl); (case k1 => k_asm); (case k2 => k_asm); (case k3 => k_asm); (case k4 => k_asm); (case k5 => k_asm); (case k6 => k_is); (case k7 => k_is); (case k8 => k_room); (case k9 => first | exact BindsTo.of_eq rfl | exact binds_K (by k_in) rfl (by k_is) rfl rfl rfl); (case c5 => decide); (case kB => exact locs rfl); (case c2 => exact rfl); (case c3 => exact rfl); (case c4 => exact rfl); k_whole; intro g' L' h' FG' F' N' B' X' T'; (try dsimp only); (try k_fold))
  simp only [List.reverse_cons, List.reverse_nil, List.nil_append, List.cons_append] at F'
  refine Mine.gen_toks (fun tk0 => ?_)
  repeat' (first | (k_here; (with_reducible show wpAny _ _ (PySem.call (Value.ref 104) [Value.int _ _, Value.int _ _, Value.int _ _, Value.int _ _, Value.int _ _, Value.int _ _]) _ _ _); k_dflt (refine' c_date ?k1 ?k2 ?k3 ?k4 ?k5 ?k6 ?k7 ?k8 ?vokt ?vokd ?_; (case k1 => k_asm); (case k2 => k_asm); (case k3 => k_asm); (case k4 => k_asm); (case k5 => k_asm); (case k6 => first | assumption | exact rfl); (case k7 => k_room); (case k8 => k_units); (case vokt => first | assumption | (unfold Mine.TimeOk; omega)); (case vokd => first | assumption | (unfold Mine.DateOk; omega)); intro x' d' h' tk' q1 q2 q3 q4 q5 q6 F' N' l1 l2; (have e1 := l1); (have e2 := l2); (try k_lt e1); (try k_lt2 e2); (try dsimp only); (try k_sweep); (try k_fold))) | (k_unfold; (try dsimp only)) | (k_end; wrow_close) | walk1 | (dsimp only; walk1) | (leave1; walk_say "STEP leave1"; try dsimp only) | fail "no step")
  all_goals (refine' hret x' d' _ _ _ _ _ _ _ _ ?zf ?zn l1 l2; (case zn => (refine' Mine.news_drop ?nN ?nS; (case nN => assumption); (case nS => (refine' List.forall_mem_cons.mpr ⟨?ma, List.forall_mem_cons.mpr ⟨?mb, ?mc⟩⟩; (case ma => k_mem); (case mb => k_mem); (case mc => (intro p hp; repeat (first | exact hp | refine List.mem_cons_of_mem _ ?_))))))); (case zf => assumption))

theorem cdd {w : World} {mean : ExcName → Option Value} {mg mb : Str → Option Value} {dp un : Nat} {gd : Option (List Code)} {cn : Str} {cs : Scope} {a : Addr} {ccd : Value} {cl : List (Str × Addr)} {outer : List Env} {A₀ : Around} {base h₀ : Heap} {L : Addr} {m : Str → Option Value} {s : Shared} {Q E : Value → Shared → Prop} {news : List (Addr × Obj)} {dd tt : Int} {t1 t2 : Tok}
    (B : Below A₀ base outer h₀) (F : Fr h₀ L s.heap m) (X : (Mine.Lt.names.heap_1 w.params).In h₀) (N : News h₀ L s.heap news) (T : Top topProg (Mine.LoOf Mine.Lt.names.view_1) mean mg mb h₀) (hk : cs.kind = .function) (hdp : dp + 50 < recursionLimit) (hun : un + 50 * 10 < cLine) (XB : (Mine.Lt.names.heap_1 w.params).In base) (TB : Top topProg (Mine.LoOf Mine.Lt.names.view_1) mean mg mb base) (D : KtsDicts (outer.filterMap (·.frame)) h₀)
    
    (hret : ∀ (hZ : Heap) (x dx : Addr) (h' : Heap) (tk k1 k2 k3 k4 k5 k6 u1 u2 u3 u4 u5 u6 : Nat), KtsTurn (outer.filterMap (·.frame)) h₀ hZ → Fr hZ L h' m → News hZ L h' ((x, instObj 104 dx) :: (dx, dictOf [Mine.ent w "year" k1 (.int (Mine.dY dd) u1), Mine.ent w "month" k2 (.int (Mine.dM dd) u2), Mine.ent w "day" k3 (.int (Mine.dD dd) u3), Mine.ent w "hour" k4 (.int (Mine.tH tt) u4), Mine.ent w "minute" k5 (.int (Mine.tM tt) u5), Mine.ent w "second" k6 (.int (Mine.tS tt) u6)] 6) :: news) → Below A₀ base outer hZ → (Mine.Lt.names.heap_1 w.params).In hZ → Top topProg (Mine.LoOf Mine.Lt.names.view_1) mean mg mb hZ → KtsDicts (outer.filterMap (·.frame)) hZ → (∀ p ∈ news, p.1 < dx) → dx < x → Q (.ref x) { s with heap := h', toks := tk }) :
    wpAny (model PySem.Challenge.rw_iw0015_01.row.prog w) (Mine.aTop none dp un gd cn cs L a ccd cl outer) (call (.ref 371) [.int dd t1, .int tt t2]) Q E s := by
  revert X; k_fill; intro X
  obtain ⟨sh9, sg9, sd9, st9, so9⟩ := s; (try dsimp only at F N); (try dsimp only at hret); (try dsimp only at hno)
  refine wpAny_call ?_
  k_dflt (refine' Mine.code_defT (binds := [((Str.ofString "dt"), .int dd t1), ((Str.ofString "tm"), .int tt t2)]) ?k1 ?k2 ?k3 ?k4 ?k5 ?XB ?TB ?D ?T0 ?kA ?kF ?cK ?k6 ?k7 ?k8 ?k9 ?kB ?_ ?c2 ?c3 ?c4 ?c5; (case kA => exact rfl); (case kF => exact rfl); (case k2 => k_asm); (case k1 => k_asm); (case XB => assumption); (case TB => assumption); (case D => assumption); (case T0 => exact KtsTurn.refl); (case k3 => k_asm); (case k4 => k_asm); (case k5 => k_asm); (case k6 => k_is); (case k7 => k_is); (case k8 => k_room); (case k9 => first | exact BindsTo.of_eq rfl | exact binds_K (by k_in) rfl (by k_is) rfl rfl rfl); (case kB => exact locs rfl); (case cK => first | assumption | exact rfl); (case c2 => exact rfl); (case c3 => exact rfl); (case c4 => exact rfl); (case c5 => decide); k_whole; intro g' L' h' FG' F' N' B' X' T' D'; (try dsimp only); (try k_fold))
  simp only [List.reverse_cons, List.reverse_nil, List.nil_append, List.cons_append] at F'
  refine Mine.gen_toks (fun tk0 => ?_)
  repeat' (first | (k_here; (with_reducible show wpAny _ _ (PySem.call (Value.ref 88) [Value.int _ _]) _ _ _); k_dflt (refine' d_date ?k1 ?k2 ?k3 ?k4 ?k5 ?k6 ?k7 ?k8 ?k9 ?k10 ?k11 ?_; (case k1 => k_asm); (case k2 => k_asm); (case k3 => k_asm); (case k4 => k_asm); (case k5 => k_asm); (case k6 => first | assumption | exact rfl); (case k7 => k_room); (case k8 => k_units); (case k9 => assumption); (case k10 => assumption); (case k11 => assumption); intro gS x' d' h' tk' q1 q2 q3 q4 q5 q6 z1 z2 z3 z4 z5 z6 TS FS NS BS XS PS DS l1 l2; (try (replace TS := KtsTurn.trans (by assumption) TS)); (have e1 := l1); (have e2 := l2); (try k_lt e1); (try k_lt2 e2); (try dsimp only); (try k_sweep); (try k_fold))) | (k_here; (with_reducible show wpAny _ _ (PySem.call (Value.ref 98) [Value.int _ _]) _ _ _); k_dflt (refine' d_time ?k1 ?k2 ?k3 ?k4 ?k5 ?k6 ?k7 ?k8 ?k9 ?k10 ?k11 ?_; (case k1 => k_asm); (case k2 => k_asm); (case k3 => k_asm); (case k4 => k_asm); (case k5 => k_asm); (case k6 => first | assumption | exact rfl); (case k7 => k_room); (case k8 => k_units); (case k9 => assumption); (case k10 => assumption); (case k11 => assumption); intro gS x' d' h' tk' q1 q2 q3 z1 z2 z3 TS FS NS BS XS PS DS l1 l2; (try (replace TS := KtsTurn.trans (by assumption) TS)); (have e1 := l1); (have e2 := l2); (try k_lt e1); (try k_lt2 e2); (try dsimp only); (try k_sweep); (try k_fold))) | (k_here; (with_reducible show wpAny _ _ (PySem.call (Value.ref 64) [Value.ref _, Value.ref _]) _ _ _); k_dflt (refine' comb ?k1 ?k2 ?k3 ?k4 ?k5 ?k6 ?k7 ?k8 ?vm1 ?vm2 ?vm3 ?vm4 ?vokt ?vokd ?_; (case k1 => k_asm); (case k2 => k_asm); (case k3 => k_asm); (case k4 => k_asm); (case k5 => k_asm); (case k6 => first | assumption | exact rfl); (case k7 => k_room); (case k8 => k_units); (case vm1 => k_mem); (case vm2 => k_mem); (case vm3 => k_mem); (case vm4 => k_mem); (case vokt => first | assumption | exact Mine.t_isok _); (case vokd => first | assumption | exact Mine.d_isok _); intro x' d' h' tk' q1 q2 q3 q4 q5 q6 F' N' l1 l2; (have e1 := l1); (have e2 := l2); (try k_lt e1); (try k_lt2 e2); (try dsimp only); (try k_sweep); (try k_fold))) | (k_unfold; (try dsimp only)) | (k_end; wrow_close) | walk1 | (dsimp only; walk1) | (leave1; walk_say "STEP leave1"; try dsimp only) | fail "no step")
  all_goals (refine' hret _ x' d' _ _ _ _ _ _ _ _ _ _ _ _ _ _  ?zt ?zf ?zn ?zb ?zx ?zp ?zd (fun p hp => l1 p (by repeat (first | exact hp | refine List.mem_cons_of_mem _ ?_))) l2; (case zf => assumption); (case zn => (refine' Mine.news_drop ?nN ?nS; (case nN => assumption); (case nS => (refine' List.forall_mem_cons.mpr ⟨?ma, List.forall_mem_cons.mpr ⟨?mb, ?mc⟩⟩; (case ma => k_mem); (case mb => k_mem); (case mc => (intro p hp; repeat (first | exact hp | refine List.mem_cons_of_mem _ ?_))))))); (case zt => first | assumption | exact KtsTurn.refl); (case zb => assumption); (case zx => assumption); (case zp => assumption); (case zd => assumption))

theorem g_ctime {w : World} {mean : ExcName → Option Value} {mg mb : Str → Option Value} {dp un : Nat} {gd : Option (List Code)} {cn : Str} {cs : Scope} {a : Addr} {ccd : Value} {cl : List (Str × Addr)} {outer : List Env} {A₀ : Around} {base h₀ : Heap} {L : Addr} {m : Str → Option Value} {s : Shared} {Q E : Value → Shared → Prop} {news : List (Addr × Obj)} {e de : Addr} {c1 c2 c3 c4 c5 c6 c7 c8 c9 c10 c11 c12 c13 c14 c15 c16 c17 c18 : Tok} {v1 v2 v3 v4 v7 v8 v9 v10 v11 v12 v13 v14 v15 v16 v17 v18 : Value} {dd tt : Int} {t1 t2 : Tok}
    (B : Below A₀ base outer h₀) (F : Fr h₀ L s.heap m) (X : (Mine.Lt.names.heap_1 w.params).In h₀) (N : News h₀ L s.heap news) (T : Top topProg (Mine.LoOf Mine.Lt.names.view_1) mean mg mb h₀) (hk : cs.kind = .function) (hdp : dp + 70 < recursionLimit) (hun : un + 70 * 10 < cLine) (XB : (Mine.Lt.names.heap_1 w.params).In base) (TB : Top topProg (Mine.LoOf Mine.Lt.names.view_1) mean mg mb base) (D : KtsDicts (outer.filterMap (·.frame)) h₀)
    (m1 : (e, instObj 595 de) ∈ news) (m2 : (de, dictOf [Mine.ent w "name" c1 (v1), Mine.ent w "attr" c2 (v2), Mine.ent w "ntres" c3 (v3), Mine.ent w "crttimetenth" c4 (v4), Mine.ent w "crttime" c5 (.int tt t1), Mine.ent w "crtdate" c6 (.int dd t2), Mine.ent w "lstaccessdate" c7 (v7), Mine.ent w "fstclushi" c8 (v8), Mine.ent w "wrttime" c9 (v9), Mine.ent w "wrtdate" c10 (v10), Mine.ent w "fstcluslo" c11 (v11), Mine.ent w "filesize" c12 (v12), Mine.ent w "_lazy_load" c13 (v13), Mine.ent w "_fs" c14 (v14), Mine.ent w "_parent" c15 (v15), Mine.ent w "lfn_entry" c16 (v16), Mine.ent w "_dirs" c17 (v17), Mine.ent w "_encoding" c18 (v18)] 18) ∈ news)
    (hret : ∀ (hZ : Heap) (x dx : Addr) (h' : Heap) (tk k1 k2 k3 k4 k5 k6 u1 u2 u3 u4 u5 u6 : Nat), KtsTurn (outer.filterMap (·.frame)) h₀ hZ → Fr hZ L h' m → News hZ L h' ((x, instObj 104 dx) :: (dx, dictOf [Mine.ent w "year" k1 (.int (Mine.dY dd) u1), Mine.ent w "month" k2 (.int (Mine.dM dd) u2), Mine.ent w "day" k3 (.int (Mine.dD dd) u3), Mine.ent w "hour" k4 (.int (Mine.tH tt) u4), Mine.ent w "minute" k5 (.int (Mine.tM tt) u5), Mine.ent w "second" k6 (.int (Mine.tS tt) u6)] 6) :: news) → Below A₀ base outer hZ → (Mine.Lt.names.heap_1 w.params).In hZ → Top topProg (Mine.LoOf Mine.Lt.names.view_1) mean mg mb hZ → KtsDicts (outer.filterMap (·.frame)) hZ → (∀ p ∈ news, p.1 < dx) → dx < x → Q (.ref x) { s with heap := h', toks := tk }) :
    wpAny (model PySem.Challenge.rw_iw0015_01.row.prog w) (Mine.aTop none dp un gd cn cs L a ccd cl outer) (call (.ref 350) [.ref e]) Q E s := by
  revert X; k_fill; intro X
  obtain ⟨sh9, sg9, sd9, st9, so9⟩ := s; (try dsimp only at F N); (try dsimp only at hret); (try dsimp only at hno)
  refine wpAny_call ?_
  k_dflt (refine' Mine.code_defT (binds := [((Str.ofString "self"), .ref e)]) ?k1 ?k2 ?k3 ?k4 ?k5 ?XB ?TB ?D ?T0 ?kA ?kF ?cK ?k6 ?k7 ?k8 ?k9 ?kB ?_ ?c2 ?c3 ?c4 ?c5; (case kA => exact rfl); (case kF => exact rfl); (case k2 => k_asm); (case k1 => k_asm); (case XB => assumption); (case TB => assumption); (case D => assumption); (case T0 => exact KtsTurn.refl); (case k3 => k_asm); (case k4 => k_asm); (case k5 => k_asm); (case k6 => k_is); (case k7 => k_is); (case k8 => k_room); (case k9 => first | exact BindsTo.of_eq rfl | exact binds_K (by k_in) rfl (by k_is) rfl rfl rfl); (case kB => exact locs rfl); (case cK => first | assumption | exact rfl); (case c2 => exact rfl); (case c3 => exact rfl); (case c4 => exact rfl); (case c5 => decide); k_whole; intro g' L' h' FG' F' N' B' X' T' D'; (try dsimp only); (try k_fold))
  simp only [List.reverse_cons, List.reverse_nil, List.nil_append, List.cons_append] at F'
  refine Mine.gen_toks (fun tk0 => ?_)
  repeat' (first | (k_here; (with_reducible show wpAny _ _ (PySem.call (Value.ref 371) [Value.int _ _, Value.int _ _]) _ _ _); k_dflt (refine' cdd ?k1 ?k2 ?k3 ?k4 ?k5 ?k6 ?k7 ?k8 ?k9 ?k10 ?k11 ?_; (case k1 => k_asm); (case k2 => k_asm); (case k3 => k_asm); (case k4 => k_asm); (case k5 => k_asm); (case k6 => first | assumption | exact rfl); (case k7 => k_room); (case k8 => k_units); (case k9 => assumption); (case k10 => assumption); (case k11 => assumption); intro gS x' d' h' tk' q1 q2 q3 q4 q5 q6 z1 z2 z3 z4 z5 z6 TS FS NS BS XS PS DS l1 l2; (try (replace TS := KtsTurn.trans (by assumption) TS)); (have e1 := l1); (have e2 := l2); (try k_lt e1); (try k_lt2 e2); (try dsimp only); (try k_sweep); (try k_fold))) | (k_unfold; (try dsimp only)) | (k_end; wrow_close) | walk1 | (dsimp only; walk1) | (leave1; walk_say "STEP leave1"; try dsimp only) | fail "no step")
  all_goals (refine' hret _ x' d' _ _ _ _ _ _ _ _ _ _ _ _ _ _  ?zt ?zf ?zn ?zb ?zx ?zp ?zd (fun p hp => l1 p (by repeat (first | exact hp | refine List.mem_cons_of_mem _ ?_))) l2; (case zf => assumption); (case zn => (refine' Mine.news_drop ?nN ?nS; (case nN => assumption); (case nS => (refine' List.forall_mem_cons.mpr ⟨?ma, List.forall_mem_cons.mpr ⟨?mb, ?mc⟩⟩; (case ma => k_mem); (case mb => k_mem); (case mc => (intro p hp; repeat (first | exact hp | refine List.mem_cons_of_mem _ ?_))))))); (case zt => first | assumption | exact KtsTurn.refl); (case zb => assumption); (case zx => assumption); (case zp => assumption); (case zd => assumption))

theorem g_mtime {w : World} {mean : ExcName → Option Value} {mg mb : Str → Option Value} {dp un : Nat} {gd : Option (List Code)} {cn : Str} {cs : Scope} {a : Addr} {ccd : Value} {cl : List (Str × Addr)} {outer : List Env} {A₀ : Around} {base h₀ : Heap} {L : Addr} {m : Str → Option Value} {s : Shared} {Q E : Value → Shared → Prop} {news : List (Addr × Obj)} {e de : Addr} {c1 c2 c3 c4 c5 c6 c7 c8 c9 c10 c11 c12 c13 c14 c15 c16 c17 c18 : Tok} {v1 v2 v3 v4 v5 v6 v7 v8 v11 v12 v13 v14 v15 v16 v17 v18 : Value} {dd tt : Int} {t1 t2 : Tok}
    (B : Below A₀ base outer h₀) (F : Fr h₀ L s.heap m) (X : (Mine.Lt.names.heap_1 w.params).In h₀) (N : News h₀ L s.heap news) (T : Top topProg (Mine.LoOf Mine.Lt.names.view_1) mean mg mb h₀) (hk : cs.kind = .function) (hdp : dp + 70 < recursionLimit) (hun : un + 70 * 10 < cLine) (XB : (Mine.Lt.names.heap_1 w.params).In base) (TB : Top topProg (Mine.LoOf Mine.Lt.names.view_1) mean mg mb base) (D : KtsDicts (outer.filterMap (·.frame)) h₀)
    (m1 : (e, instObj 595 de) ∈ news) (m2 : (de, dictOf [Mine.ent w "name" c1 (v1), Mine.ent w "attr" c2 (v2), Mine.ent w "ntres" c3 (v3), Mine.ent w "crttimetenth" c4 (v4), Mine.ent w "crttime" c5 (v5), Mine.ent w "crtdate" c6 (v6), Mine.ent w "lstaccessdate" c7 (v7), Mine.ent w "fstclushi" c8 (v8), Mine.ent w "wrttime" c9 (.int tt t1), Mine.ent w "wrtdate" c10 (.int dd t2), Mine.ent w "fstcluslo" c11 (v11), Mine.ent w "filesize" c12 (v12), Mine.ent w "_lazy_load" c13 (v13), Mine.ent w "_fs" c14 (v14), Mine.ent w "_parent" c15 (v15), Mine.ent w "lfn_entry" c16 (v16), Mine.ent w "_dirs" c17 (v17), Mine.ent w "_encoding" c18 (v18)] 18) ∈ news)
    (hret : ∀ (hZ : Heap) (x dx : Addr) (h' : Heap) (tk k1 k2 k3 k4 k5 k6 u1 u2 u3 u4 u5 u6 : Nat), KtsTurn (outer.filterMap (·.frame)) h₀ hZ → Fr hZ L h' m → News hZ L h' ((x, instObj 104 dx) :: (dx, dictOf [Mine.ent w "year" k1 (.int (Mine.dY dd) u1), Mine.ent w "month" k2 (.int (Mine.dM dd) u2), Mine.ent w "day" k3 (.int (Mine.dD dd) u3), Mine.ent w "hour" k4 (.int (Mine.tH tt) u4), Mine.ent w "minute" k5 (.int (Mine.tM tt) u5), Mine.ent w "second" k6 (.int (Mine.tS tt) u6)] 6) :: news) → Below A₀ base outer hZ → (Mine.Lt.names.heap_1 w.params).In hZ → Top topProg (Mine.LoOf Mine.Lt.names.view_1) mean mg mb hZ → KtsDicts (outer.filterMap (·.frame)) hZ → (∀ p ∈ news, p.1 < dx) → dx < x → Q (.ref x) { s with heap := h', toks := tk }) :
    wpAny (model PySem.Challenge.rw_iw0015_01.row.prog w) (Mine.aTop none dp un gd cn cs L a ccd cl outer) (call (.ref 357) [.ref e]) Q E s := by
  revert X; k_fill; intro X
  obtain ⟨sh9, sg9, sd9, st9, so9⟩ := s; (try dsimp only at F N); (try dsimp only at hret); (try dsimp only at hno)
  refine wpAny_call ?_
  k_dflt (refine' Mine.code_defT (binds := [((Str.ofString "self"), .ref e)]) ?k1 ?k2 ?k3 ?k4 ?k5 ?XB ?TB ?D ?T0 ?kA ?kF ?cK ?k6 ?k7 ?k8 ?k9 ?kB ?_ ?c2 ?c3 ?c4 ?c5; (case kA => exact rfl); (case kF => exact rfl); (case k2 => k_asm); (case k1 => k_asm); (case XB => assumption); (case TB => assumption); (case D => assumption); (case T0 => exact KtsTurn.refl); (case k3 => k_asm); (case k4 => k_asm); (case k5 => k_asm); (case k6 => k_is); (case k7 => k_is); (case k8 => k_room); (case k9 => first | exact BindsTo.of_eq rfl | exact binds_K (by k_in) rfl (by k_is) rfl rfl rfl); (case kB => exact locs rfl); (case cK => first | assumption | exact rfl); (case c2 => exact rfl); (case c3 => exact rfl); (case c4 => exact rfl); (case c5 => decide); k_whole; intro g' L' h' FG' F' N' B' X' T' D'; (try dsimp only); (try k_fold))
  simp only [List.reverse_cons, List.reverse_nil, List.nil_append, List.cons_append] at F'
  refine Mine.gen_toks (fun tk0 => ?_)
  repeat' (first | (k_here; (with_reducible show wpAny _ _ (PySem.call (Value.ref 371) [Value.int _ _, Value.int _ _]) _ _ _); k_dflt (refine' cdd ?k1 ?k2 ?k3 ?k4 ?k5 ?k6 ?k7 ?k8 ?k9 ?k10 ?k11 ?_; (case k1 => k_asm); (case k2 => k_asm); (case k3 => k_asm); (case k4 => k_asm); (case k5 => k_asm); (case k6 => first | assumption | exact rfl); (case k7 => k_room); (case k8 => k_units); (case k9 => assumption); (case k10 => assumption); (case k11 => assumption); intro gS x' d' h' tk' q1 q2 q3 q4 q5 q6 z1 z2 z3 z4 z5 z6 TS FS NS BS XS PS DS l1 l2; (try (replace TS := KtsTurn.trans (by assumption) TS)); (have e1 := l1); (have e2 := l2); (try k_lt e1); (try k_lt2 e2); (try dsimp only); (try k_sweep); (try k_fold))) | (k_unfold; (try dsimp only)) | (k_end; wrow_close) | walk1 | (dsimp only; walk1) | (leave1; walk_say "STEP leave1"; try dsimp only) | fail "no step")
  all_goals (refine' hret _ x' d' _ _ _ _ _ _ _ _ _ _ _ _ _ _  ?zt ?zf ?zn ?zb ?zx ?zp ?zd (fun p hp => l1 p (by repeat (first | exact hp | refine List.mem_cons_of_mem _ ?_))) l2; (case zf => assumption); (case zn => (refine' Mine.news_drop ?nN ?nS; (case nN => assumption); (case nS => (refine' List.forall_mem_cons.mpr ⟨?ma, List.forall_mem_cons.mpr ⟨?mb, ?mc⟩⟩; (case ma => k_mem); (case mb => k_mem); (case mc => (intro p hp; repeat (first | exact hp | refine List.mem_cons_of_mem _ ?_))))))); (case zt => first | assumption | exact KtsTurn.refl); (case zb => assumption); (case zx => assumption); (case zp => assumption); (case zd => assumption))

theorem g_atime {w : World} {mean : ExcName → Option Value} {mg mb : Str → Option Value} {dp un : Nat} {gd : Option (List Code)} {cn : Str} {cs : Scope} {a : Addr} {ccd : Value} {cl : List (Str × Addr)} {outer : List Env} {A₀ : Around} {base h₀ : Heap} {L : Addr} {m : Str → Option Value} {s : Shared} {Q E : Value → Shared → Prop} {news : List (Addr × Obj)} {e de : Addr} {c1 c2 c3 c4 c5 c6 c7 c8 c9 c10 c11 c12 c13 c14 c15 c16 c17 c18 : Tok} {v1 v2 v3 v4 v5 v6 v8 v9 v10 v11 v12 v13 v14 v15 v16 v17 v18 : Value} {z : Int} {t1 : Tok}
    (B : Below A₀ base outer h₀) (F : Fr h₀ L s.heap m) (X : (Mine.Lt.names.heap_1 w.params).In h₀) (N : News h₀ L s.heap news) (T : Top topProg (Mine.LoOf Mine.Lt.names.view_1) mean mg mb h₀) (hk : cs.kind = .function) (hdp : dp + 70 < recursionLimit) (hun : un + 70 * 10 < cLine) (XB : (Mine.Lt.names.heap_1 w.params).In base) (TB : Top topProg (Mine.LoOf Mine.Lt.names.view_1) mean mg mb base) (D : KtsDicts (outer.filterMap (·.frame)) h₀)
    (m1 : (e, instObj 595 de) ∈ news) (m2 : (de, dictOf [Mine.ent w "name" c1 (v1), Mine.ent w "attr" c2 (v2), Mine.ent w "ntres" c3 (v3), Mine.ent w "crttimetenth" c4 (v4), Mine.ent w "crttime" c5 (v5), Mine.ent w "crtdate" c6 (v6), Mine.ent w "lstaccessdate" c7 (.int z t1), Mine.ent w "fstclushi" c8 (v8), Mine.ent w "wrttime" c9 (v9), Mine.ent w "wrtdate" c10 (v10), Mine.ent w "fstcluslo" c11 (v11), Mine.ent w "filesize" c12 (v12), Mine.ent w "_lazy_load" c13 (v13), Mine.ent w "_fs" c14 (v14), Mine.ent w "_parent" c15 (v15), Mine.ent w "lfn_entry" c16 (v16), Mine.ent w "_dirs" c17 (v17), Mine.ent w "_encoding" c18 (v18)] 18) ∈ news)
    (hret : ∀ (hZ : Heap) (x dx : Addr) (h' : Heap) (tk k1 k2 k3 k4 k5 k6 u1 u2 u3 u4 u5 u6 : Nat), KtsTurn (outer.filterMap (·.frame)) h₀ hZ → Fr hZ L h' m → News hZ L h' ((x, instObj 104 dx) :: (dx, dictOf [Mine.ent w "year" k1 (.int (Mine.dY z) u1), Mine.ent w "month" k2 (.int (Mine.dM z) u2), Mine.ent w "day" k3 (.int (Mine.dD z) u3), Mine.ent w "hour" k4 (.int 0 u4), Mine.ent w "minute" k5 (.int 0 u5), Mine.ent w "second" k6 (.int 0 u6)] 6) :: news) → Below A₀ base outer hZ → (Mine.Lt.names.heap_1 w.params).In hZ → Top topProg (Mine.LoOf Mine.Lt.names.view_1) mean mg mb hZ → KtsDicts (outer.filterMap (·.frame)) hZ → (∀ p ∈ news, p.1 < dx) → dx < x → Q (.ref x) { s with heap := h', toks := tk }) :
    wpAny (model PySem.Challenge.rw_iw0015_01.row.prog w) (Mine.aTop none dp un gd cn cs L a ccd cl outer) (call (.ref 364) [.ref e]) Q E s := by
  revert X; k_fill; intro X
  obtain ⟨sh9, sg9, sd9, st9, so9⟩ := s; (try dsimp only at F N); (try dsimp only at hret); (try dsimp only at hno)
  refine wpAny_call ?_
  k_dflt (refine' Mine.code_defT (binds := [((Str.ofString "self"), .ref e)]) ?k1 ?k2 ?k3 ?k4 ?k5 ?XB ?TB ?D ?T0 ?kA ?kF ?cK ?k6 ?k7 ?k8 ?k9 ?kB ?_ ?c2 ?c3 ?c4 ?c5; (case kA => exact rfl); (case kF => exact rfl); (case k2 => k_asm); (case k1 => k_asm); (case XB => assumption); (case TB => assumption); (case D => assumption); (case T0 => exact KtsTurn.refl); (case k3 => k_asm); (case k4 => k_asm); (case k5 => k_asm); (case k6 => k_is); (case k7 => k_is); (case k8 => k_room); (case k9 => first | exact BindsTo.of_eq rfl | exact binds_K (by k_in) rfl (by k_is) rfl rfl rfl); (case kB => exact locs rfl); (case cK => first | assumption | exact rfl); (case c2 => exact rfl); (case c3 => exact rfl); (case c4 => exact rfl); (case c5 => decide); k_whole; intro g' L' h' FG' F' N' B' X' T' D'; (try dsimp only); (try k_fold))
  simp only [List.reverse_cons, List.reverse_nil, List.nil_append, List.cons_append] at F'
  refine Mine.gen_toks (fun tk0 => ?_)
  repeat' (first | (k_here; (with_reducible show wpAny _ _ (PySem.call (Value.ref 88) [Value.int _ _]) _ _ _); k_dflt (refine' d_date ?k1 ?k2 ?k3 ?k4 ?k5 ?k6 ?k7 ?k8 ?k9 ?k10 ?k11 ?_; (case k1 => k_asm); (case k2 => k_asm); (case k3 => k_asm); (case k4 => k_asm); (case k5 => k_asm); (case k6 => first | assumption | exact rfl); (case k7 => k_room); (case k8 => k_units); (case k9 => assumption); (case k10 => assumption); (case k11 => assumption); intro gS x' d' h' tk' q1 q2 q3 q4 q5 q6 z1 z2 z3 z4 z5 z6 TS FS NS BS XS PS DS l1 l2; (try (replace TS := KtsTurn.trans (by assumption) TS)); (have e1 := l1); (have e2 := l2); (try k_lt e1); (try k_lt2 e2); (try dsimp only); (try k_sweep); (try k_fold))) | (k_unfold; (try dsimp only)) | (k_end; wrow_close) | walk1 | (dsimp only; walk1) | (leave1; walk_say "STEP leave1"; try dsimp only) | fail "no step")
  all_goals (refine' hret _ x' d' _ _ _ _ _ _ _ _ _ _ _ _ _ _  ?zt ?zf ?zn ?zb ?zx ?zp ?zd (fun p hp => l1 p (by repeat (first | exact hp | refine List.mem_cons_of_mem _ ?_))) l2; (case zf => assumption); (case zn => (refine' Mine.news_drop ?nN ?nS; (case nN => assumption); (case nS => (refine' List.forall_mem_cons.mpr ⟨?ma, List.forall_mem_cons.mpr ⟨?mb, ?mc⟩⟩; (case ma => k_mem); (case mb => k_mem); (case mc => (intro p hp; repeat (first | exact hp | refine List.mem_cons_of_mem _ ?_))))))); (case zt => first | assumption | exact KtsTurn.refl); (case zb => assumption); (case zx => assumption); (case zp => assumption); (case zd => assumption))

theorem enc {w : World} {mean : ExcName → Option Value} {mg mb : Str → Option Value} {dp un : Nat} {gd : Option (List Code)} {cn : Str} {cs : Scope} {a : Addr} {ccd : Value} {cl : List (Str × Addr)} {outer : List Env} {A₀ : Around} {base h₀ : Heap} {L : Addr} {m : Str → Option Value} {s : Shared} {Q E : Value → Shared → Prop} {news : List (Addr × Obj)} {x : Str} {t : Tok}
    (B : Below A₀ base outer h₀) (F : Fr h₀ L s.heap m) (X : (Mine.Lt.names.heap_1 w.params).In h₀) (N : News h₀ L s.heap news) (T : Top topProg (Mine.LoOf Mine.Lt.names.view_1) mean mg mb h₀) (hk : cs.kind = .function) (hdp : dp + 20 < recursionLimit) (hun : un + 20 * 10 < cLine)
    (asc : x.cps.all (· < 128) = true) (sz : x.cps.size ≤ sizeLine)
    (hret : ∀ (h' : Heap) (t tk : Nat), Fr h₀ L h' m → News h₀ L h' news → Q (.bytes (byteArr (x.cps.toList.map Int.ofNat)) t) { s with heap := h', toks := tk }) :
    wpAny (model PySem.Challenge.rw_iw0015_01.row.prog w) (Mine.aTop none dp un gd cn cs L a ccd cl outer) (call (.ref 162) [.str x t]) Q E s := by
  revert X; k_fill; intro X
  obtain ⟨sh9, sg9, sd9, st9, so9⟩ := s; (try dsimp only at F N); (try dsimp only at hret); (try dsimp only at hno)
  refine wpAny_call ?_
  k_dflt (refine' code_def (binds := [((Str.ofString "text"), .str x t)]) ?k1 ?k2 ?k3 ?k4 ?k5 ?kA ?kF ?kK ?k6 ?k7 ?k8 ?k9 ?kB ?_ ?c2 ?c3 ?c4 ?c5; (case kA => exact rfl); (case kF => exact rfl); (case kK => first | assumption | exact rfl); (case k1 => k_asm); (case k2 => k_asm); (case k3 => k_asm); (case k4 => k_asm); (case k5 => k_asm); (case k6 => k_is); (case k7 => k_is); (case k8 => k_room); (case k9 => first | exact BindsTo.of_eq rfl | exact binds_K (by k_in) rfl (by k_is) rfl rfl rfl); (case c5 => decide); (case kB => exact locs rfl); (case c2 => exact rfl); (case c3 => exact rfl); (case c4 => exact rfl); k_whole; intro g' L' h' FG' F' N' B' X' T'; (try dsimp only); (try k_fold))
  simp only [List.reverse_cons, List.reverse_nil, List.nil_append, List.cons_append] at F'
  refine Mine.gen_toks (fun tk0 => ?_)
  repeat' (first | ((with_reducible show wpAny _ _ (PySem.eval (Expr.ListComp _ _ _ _) _) _ _ _); k_here; k_dflt (refine Mine.listcomp_ascii (_F₀ := by k_asm) (by rfl) (by decide) (by rfl) (by decide) (by rfl) ?_)) | ((with_reducible show ∃ _ _ _, Value.str _ _ = Value.str _ _ ∧ _); refine' ⟨_, _, _, rfl, ?ea, ?eb, rfl, ?ef, ?en, fun gS => ?_⟩; (case ea => assumption); (case eb => assumption); (case ef => k_asm); (case en => k_asm); refine Mine.signs_rest ?_ ?_; (intro c9 u9 I9 oI9 C9 oC9 D9 m9 ys9 h9 k9 E9 hC9 hx9 F9 N9 off9 ne9; (try dsimp only)); rotate_left; (intro ys9 hy9; (unfold LCg.FinE); intro D9 h9 k9 F9 N9 o9; (try dsimp only))) | ((with_reducible show LCg.CompEnd _ _ _ _ _ _ _ _ _ _ _ _ _ _); exact LCg.CompEnd.intro (by assumption) (by assumption) news (fun p hp => hp) off9 trivial ⟨rfl, _, rfl⟩) | ((with_reducible show wpAny _ _ (PySem.call (Value.type "bytes") [Value.ref _]) _ _ _); k_dflt (refine' call_bytes_ints ?bl ?bi ?br ?bz ?bh ?_; (case bl => is_list); (case bi => assumption); (case br => exact Mine.ascii_bytes (by assumption)); (case bz => (have q9 := IntsAre.length hy9; simp only [List.length_map, Array.length_toList] at q9; omega)); (case bh => exact rfl)); intro hB tB kB keepB; (have FB := F9.keeps keepB); (have NB := N9.grown keepB); (try dsimp only)) | (k_unfold; (try dsimp only)) | (k_end; wrow_close) | walk1 | (dsimp only; walk1) | (leave1; walk_say "STEP leave1"; try dsimp only) | fail "no step")
  all_goals exact hret _ _ _ (by assumption) (Mine.news_drop (by assumption) (by intro p hp; repeat (first | exact hp | refine List.mem_cons_of_mem _ ?_)))

theorem entc {w : World} {mean : ExcName → Option Value} {mg mb : Str → Option Value} {dp un : Nat} {gd : Option (List Code)} {cn : Str} {cs : Scope} {a : Addr} {ccd : Value} {cl : List (Str × Addr)} {outer : List Env} {A₀ : Around} {base h₀ : Heap} {L : Addr} {m : Str → Option Value} {s : Shared} {Q E : Value → Shared → Prop} {news : List (Addr × Obj)} {nm : Value} {a2 a3 a4 a5 a6 a7 a8 a9 a10 a11 a12 : Int} {t2 t3 t4 t5 t6 t7 t8 t9 t10 t11 t12 : Tok} {ve : Value} {pos : List Value} {kw : List (Str × Value)}
    (B : Below A₀ base outer h₀) (F : Fr h₀ L s.heap m) (X : (Mine.Lt.names.heap_1 w.params).In h₀) (N : News h₀ L s.heap news) (T : Top topProg (Mine.LoOf Mine.Lt.names.view_1) mean mg mb h₀) (hk : cs.kind = .function) (hdp : dp + 60 < recursionLimit) (hun : un + 60 * 10 < cLine) (XB : (Mine.Lt.names.heap_1 w.params).In base) (TB : Top topProg (Mine.LoOf Mine.Lt.names.view_1) mean mg mb base) (D : KtsDicts (outer.filterMap (·.frame)) h₀)
    (sz : a12 ≤ 4294967295) (hb : ∀ (oc : Value) (od : Option Addr) (fd : FuncData) (osl : Array (Option Value)), (Mine.Lt.names.heap_1 w.params).lookup 325 = some ⟨oc, od, .func fd, osl⟩ → ∀ (s : Shared) (x : Addr), (Mine.Lt.names.heap_1 w.params).In s.heap → BindsTo s fd ⟨.ref x :: pos, kw⟩ [((Str.ofString "self"), .ref x), ((Str.ofString "DIR_Name"), nm), ((Str.ofString "DIR_Attr"), .int a2 t2), ((Str.ofString "DIR_NTRes"), .int a3 t3), ((Str.ofString "DIR_CrtTimeTenth"), .int a4 t4), ((Str.ofString "DIR_CrtTime"), .int a5 t5), ((Str.ofString "DIR_CrtDate"), .int a6 t6), ((Str.ofString "DIR_LstAccessDate"), .int a7 t7), ((Str.ofString "DIR_FstClusHI"), .int a8 t8), ((Str.ofString "DIR_WrtTime"), .int a9 t9), ((Str.ofString "DIR_WrtDate"), .int a10 t10), ((Str.ofString "DIR_FstClusLO"), .int a11 t11), ((Str.ofString "DIR_FileSize"), .int a12 t12), ((Str.ofString "encoding"), ve), ((Str.ofString "fs"), .none), ((Str.ofString "lazy_load"), .bool false), ((Str.ofString "lfn_entry"), .none)])
    (hret : ∀ (hZ : Heap) (x dx ds : Addr) (h' : Heap) (tk k1 k2 k3 k4 k5 k6 k7 k8 k9 k10 k11 k12 k13 k14 k15 k16 k17 k18 u2 u3 u4 u5 u6 u7 u8 u9 u10 u11 u12  : Nat), KtsTurn (outer.filterMap (·.frame)) h₀ hZ → Fr hZ L h' m → News hZ L h' ((x, instObj 595 dx) :: (dx, dictOf [Mine.ent w "name" k1 (nm), Mine.ent w "attr" k2 (.int a2 u2), Mine.ent w "ntres" k3 (.int a3 u3), Mine.ent w "crttimetenth" k4 (.int a4 u4), Mine.ent w "crttime" k5 (.int a5 u5), Mine.ent w "crtdate" k6 (.int a6 u6), Mine.ent w "lstaccessdate" k7 (.int a7 u7), Mine.ent w "fstclushi" k8 (.int a8 u8), Mine.ent w "wrttime" k9 (.int a9 u9), Mine.ent w "wrtdate" k10 (.int a10 u10), Mine.ent w "fstcluslo" k11 (.int a11 u11), Mine.ent w "filesize" k12 (.int a12 u12), Mine.ent w "_lazy_load" k13 (.bool false), Mine.ent w "_fs" k14 (.none), Mine.ent w "_parent" k15 (.none), Mine.ent w "lfn_entry" k16 (.none), Mine.ent w "_dirs" k17 (.ref ds), Mine.ent w "_encoding" k18 (ve)] 18) :: news) → Below A₀ base outer hZ → (Mine.Lt.names.heap_1 w.params).In hZ → Top topProg (Mine.LoOf Mine.Lt.names.view_1) mean mg mb hZ → KtsDicts (outer.filterMap (·.frame)) hZ → (∀ p ∈ news, p.1 < dx) → dx < x → Q (.ref x) { s with heap := h', toks := tk }) :
    wpAny (model PySem.Challenge.rw_iw0015_01.row.prog w) (Mine.aTop none dp un gd cn cs L a ccd cl outer) (call (.ref 595) pos kw) Q E s := by
  revert X; k_fill; intro X
  obtain ⟨sh9, sg9, sd9, st9, so9⟩ := s; (try dsimp only at F N); (try dsimp only at hret); (try dsimp only at hno)
  (k_here; k_dflt ((refine' call_cls ?k1 ?k2 ?k3 ?k4 ?k5 ?k6 ?_; (case k1 => k_asm); (case k2 => k_asm); (case k3 => k_asm); (case k4 => k_is); (case k5 => k_is); (case k6 => k_is); k_whole; intro x' d' hN F₁ N₁ l1 l2; (have l1' := l1); (have l2' := l2); (try k_lt l1'); (try k_lt2 l2'); (try k_sweep))))
  k_dflt (refine' Mine.code_defT (binds := [((Str.ofString "self"), .ref x'), ((Str.ofString "DIR_Name"), nm), ((Str.ofString "DIR_Attr"), .int a2 t2), ((Str.ofString "DIR_NTRes"), .int a3 t3), ((Str.ofString "DIR_CrtTimeTenth"), .int a4 t4), ((Str.ofString "DIR_CrtTime"), .int a5 t5), ((Str.ofString "DIR_CrtDate"), .int a6 t6), ((Str.ofString "DIR_LstAccessDate"), .int a7 t7), ((Str.ofString "DIR_FstClusHI"), .int a8 t8), ((Str.ofString "DIR_WrtTime"), .int a9 t9), ((Str.ofString "DIR_WrtDate"), .int a10 t10), ((Str.ofString "DIR_FstClusLO"), .int a11 t11), ((Str.ofString "DIR_FileSize"), .int a12 t12), ((Str.ofString "encoding"), ve), ((Str.ofString "fs"), .none), ((Str.ofString "lazy_load"), .bool false), ((Str.ofString "lfn_entry"), .none)]) ?k1 ?k2 ?k3 ?k4 ?k5 ?XB ?TB ?D ?T0 ?kA ?kF ?cK ?k6 ?k7 ?k8 ?k9 ?kB ?_ ?c2 ?c3 ?c4 ?c5; (case kA => exact rfl); (case kF => exact rfl); (case k2 => k_asm); (case k1 => k_asm); (case XB => assumption); (case TB => assumption); (case D => assumption); (case T0 => exact KtsTurn.refl); (case k3 => k_asm); (case k4 => k_asm); (case k5 => k_asm); (case k6 => k_is); (case k7 => k_is); (case k8 => k_room); (case k9 => first | exact hb _ _ _ _ (by k_is) _ _ (by k_in) | exact BindsTo.of_eq rfl | exact binds_K (by k_in) rfl (by k_is) rfl rfl rfl); (case kB => exact locs rfl); (case cK => first | assumption | exact rfl); (case c2 => exact rfl); (case c3 => exact rfl); (case c4 => exact rfl); (case c5 => decide); k_whole; intro g' L' h' FG' F' N' B' X' T' D'; (try dsimp only); (try k_fold))
  simp only [List.reverse_cons, List.reverse_nil, List.nil_append, List.cons_append] at F'
  refine Mine.gen_toks (fun tk0 => ?_)
  repeat' (first | (k_unfold; (try dsimp only)) | (k_end; wrow_close) | walk1 | (dsimp only; walk1) | (leave1; walk_say "STEP leave1"; try dsimp only) | fail "no step")
  all_goals (refine' hret _ x' d' _ _ _ _ _ _ _ _ _ _ _ _ _ _ _ _ _ _ _ _ _ _ _ _ _ _ _ _ _ _ _ _  ?zt ?zf ?zn ?zb ?zx ?zp ?zd (fun p hp => l1 p (by repeat (first | exact hp | refine List.mem_cons_of_mem _ ?_))) l2; (case zf => assumption); (case zn => (refine' Mine.news_drop ?nN ?nS; (case nN => assumption); (case nS => (refine' List.forall_mem_cons.mpr ⟨?ma, List.forall_mem_cons.mpr ⟨?mb, ?mc⟩⟩; (case ma => k_mem); (case mb => k_mem); (case mc => (intro p hp; repeat (first | exact hp | refine List.mem_cons_of_mem _ ?_))))))); (case zt => first | assumption | exact KtsTurn.refl); (case zb => assumption); (case zx => assumption); (case zp => assumption); (case zd => assumption))

theorem entk {w : World} {mean : ExcName → Option Value} {mg mb : Str → Option Value} {dp un : Nat} {gd : Option (List Code)} {cn : Str} {cs : Scope} {a : Addr} {ccd : Value} {cl : List (Str × Addr)} {outer : List Env} {A₀ : Around} {base h₀ : Heap} {L : Addr} {m : Str → Option Value} {s : Shared} {Q E : Value → Shared → Prop} {news : List (Addr × Obj)} {nm : Value} {a2 a3 a4 a5 a6 a7 a8 a9 a10 a11 a12 : Int} {t2 t3 t4 t5 t6 t7 t8 t9 t10 t11 t12 : Tok} {ve : Value}
    (B : Below A₀ base outer h₀) (F : Fr h₀ L s.heap m) (X : (Mine.Lt.names.heap_1 w.params).In h₀) (N : News h₀ L s.heap news) (T : Top topProg (Mine.LoOf Mine.Lt.names.view_1) mean mg mb h₀) (hk : cs.kind = .function) (hdp : dp + 60 < recursionLimit) (hun : un + 60 * 10 < cLine) (XB : (Mine.Lt.names.heap_1 w.params).In base) (TB : Top topProg (Mine.LoOf Mine.Lt.names.view_1) mean mg mb base) (D : KtsDicts (outer.filterMap (·.frame)) h₀)
    (sz : a12 ≤ 4294967295)
    (hret : ∀ (hZ : Heap) (x dx ds : Addr) (h' : Heap) (tk k1 k2 k3 k4 k5 k6 k7 k8 k9 k10 k11 k12 k13 k14 k15 k16 k17 k18 u2 u3 u4 u5 u6 u7 u8 u9 u10 u11 u12  : Nat), KtsTurn (outer.filterMap (·.frame)) h₀ hZ → Fr hZ L h' m → News hZ L h' ((x, instObj 595 dx) :: (dx, dictOf [Mine.ent w "name" k1 (nm), Mine.ent w "attr" k2 (.int a2 u2), Mine.ent w "ntres" k3 (.int a3 u3), Mine.ent w "crttimetenth" k4 (.int a4 u4), Mine.ent w "crttime" k5 (.int a5 u5), Mine.ent w "crtdate" k6 (.int a6 u6), Mine.ent w "lstaccessdate" k7 (.int a7 u7), Mine.ent w "fstclushi" k8 (.int a8 u8), Mine.ent w "wrttime" k9 (.int a9 u9), Mine.ent w "wrtdate" k10 (.int a10 u10), Mine.ent w "fstcluslo" k11 (.int a11 u11), Mine.ent w "filesize" k12 (.int a12 u12), Mine.ent w "_lazy_load" k13 (.bool false), Mine.ent w "_fs" k14 (.none), Mine.ent w "_parent" k15 (.none), Mine.ent w "lfn_entry" k16 (.none), Mine.ent w "_dirs" k17 (.ref ds), Mine.ent w "_encoding" k18 (ve)] 18) :: news) → Below A₀ base outer hZ → (Mine.Lt.names.heap_1 w.params).In hZ → Top topProg (Mine.LoOf Mine.Lt.names.view_1) mean mg mb hZ → KtsDicts (outer.filterMap (·.frame)) hZ → (∀ p ∈ news, p.1 < dx) → dx < x → Q (.ref x) { s with heap := h', toks := tk }) :
    wpAny (model PySem.Challenge.rw_iw0015_01.row.prog w) (Mine.aTop none dp un gd cn cs L a ccd cl outer) (call (.ref 595) [] [((Str.ofString "DIR_Name"), nm), ((Str.ofString "DIR_Attr"), .int a2 t2), ((Str.ofString "DIR_NTRes"), .int a3 t3), ((Str.ofString "DIR_CrtTimeTenth"), .int a4 t4), ((Str.ofString "DIR_CrtTime"), .int a5 t5), ((Str.ofString "DIR_CrtDate"), .int a6 t6), ((Str.ofString "DIR_LstAccessDate"), .int a7 t7), ((Str.ofString "DIR_FstClusHI"), .int a8 t8), ((Str.ofString "DIR_WrtTime"), .int a9 t9), ((Str.ofString "DIR_WrtDate"), .int a10 t10), ((Str.ofString "DIR_FstClusLO"), .int a11 t11), ((Str.ofString "DIR_FileSize"), .int a12 t12), ((Str.ofString "encoding"), ve)]) Q E s := by
  revert X; k_fill; intro X
  refine' entc (pos := []) (kw := [((Str.ofString "DIR_Name"), nm), ((Str.ofString "DIR_Attr"), .int a2 t2), ((Str.ofString "DIR_NTRes"), .int a3 t3), ((Str.ofString "DIR_CrtTimeTenth"), .int a4 t4), ((Str.ofString "DIR_CrtTime"), .int a5 t5), ((Str.ofString "DIR_CrtDate"), .int a6 t6), ((Str.ofString "DIR_LstAccessDate"), .int a7 t7), ((Str.ofString "DIR_FstClusHI"), .int a8 t8), ((Str.ofString "DIR_WrtTime"), .int a9 t9), ((Str.ofString "DIR_WrtDate"), .int a10 t10), ((Str.ofString "DIR_FstClusLO"), .int a11 t11), ((Str.ofString "DIR_FileSize"), .int a12 t12), ((Str.ofString "encoding"), ve)]) (ve := ve) (nm := nm) (a2 := a2) (t2 := t2) (a3 := a3) (t3 := t3) (a4 := a4) (t4 := t4) (a5 := a5) (t5 := t5) (a6 := a6) (t6 := t6) (a7 := a7) (t7 := t7) (a8 := a8) (t8 := t8) (a9 := a9) (t9 := t9) (a10 := a10) (t10 := t10) (a11 := a11) (t11 := t11) (a12 := a12) (t12 := t12) B F X N T hk hdp hun XB TB D sz ?hb9 ?hr9
  case hb9 => (refine Mine.bind_of_lookup (by k_is) ?_; intro s x hX; exact Mine.binds_load hX rfl (by k_is) (by kernel_rfl) (by kernel_rfl))
  case hr9 => exact hret

theorem entp {w : World} {mean : ExcName → Option Value} {mg mb : Str → Option Value} {dp un : Nat} {gd : Option (List Code)} {cn : Str} {cs : Scope} {a : Addr} {ccd : Value} {cl : List (Str × Addr)} {outer : List Env} {A₀ : Around} {base h₀ : Heap} {L : Addr} {m : Str → Option Value} {s : Shared} {Q E : Value → Shared → Prop} {news : List (Addr × Obj)} {nm : Value} {a2 a3 a4 a5 a6 a7 a8 a9 a10 a11 a12 : Int} {t2 t3 t4 t5 t6 t7 t8 t9 t10 t11 t12 : Tok}
    (B : Below A₀ base outer h₀) (F : Fr h₀ L s.heap m) (X : (Mine.Lt.names.heap_1 w.params).In h₀) (N : News h₀ L s.heap news) (T : Top topProg (Mine.LoOf Mine.Lt.names.view_1) mean mg mb h₀) (hk : cs.kind = .function) (hdp : dp + 60 < recursionLimit) (hun : un + 60 * 10 < cLine) (XB : (Mine.Lt.names.heap_1 w.params).In base) (TB : Top topProg (Mine.LoOf Mine.Lt.names.view_1) mean mg mb base) (D : KtsDicts (outer.filterMap (·.frame)) h₀)
    (sz : a12 ≤ 4294967295)
    (hret : ∀ (hZ : Heap) (x dx ds : Addr) (h' : Heap) (tk k1 k2 k3 k4 k5 k6 k7 k8 k9 k10 k11 k12 k13 k14 k15 k16 k17 k18 u2 u3 u4 u5 u6 u7 u8 u9 u10 u11 u12 v : Nat), KtsTurn (outer.filterMap (·.frame)) h₀ hZ → Fr hZ L h' m → News hZ L h' ((x, instObj 595 dx) :: (dx, dictOf [Mine.ent w "name" k1 (nm), Mine.ent w "attr" k2 (.int a2 u2), Mine.ent w "ntres" k3 (.int a3 u3), Mine.ent w "crttimetenth" k4 (.int a4 u4), Mine.ent w "crttime" k5 (.int a5 u5), Mine.ent w "crtdate" k6 (.int a6 u6), Mine.ent w "lstaccessdate" k7 (.int a7 u7), Mine.ent w "fstclushi" k8 (.int a8 u8), Mine.ent w "wrttime" k9 (.int a9 u9), Mine.ent w "wrtdate" k10 (.int a10 u10), Mine.ent w "fstcluslo" k11 (.int a11 u11), Mine.ent w "filesize" k12 (.int a12 u12), Mine.ent w "_lazy_load" k13 (.bool false), Mine.ent w "_fs" k14 (.none), Mine.ent w "_parent" k15 (.none), Mine.ent w "lfn_entry" k16 (.none), Mine.ent w "_dirs" k17 (.ref ds), Mine.ent w "_encoding" k18 (.str (Str.ofString "latin-1") v)] 18) :: news) → Below A₀ base outer hZ → (Mine.Lt.names.heap_1 w.params).In hZ → Top topProg (Mine.LoOf Mine.Lt.names.view_1) mean mg mb hZ → KtsDicts (outer.filterMap (·.frame)) hZ → (∀ p ∈ news, p.1 < dx) → dx < x → Q (.ref x) { s with heap := h', toks := tk }) :
    wpAny (model PySem.Challenge.rw_iw0015_01.row.prog w) (Mine.aTop none dp un gd cn cs L a ccd cl outer) (call (.ref 595) [nm, .int a2 t2, .int a3 t3, .int a4 t4, .int a5 t5, .int a6 t6, .int a7 t7, .int a8 t8, .int a9 t9, .int a10 t10, .int a11 t11, .int a12 t12]) Q E s := by
  revert X; k_fill; intro X
  refine' entc (pos := [nm, .int a2 t2, .int a3 t3, .int a4 t4, .int a5 t5, .int a6 t6, .int a7 t7, .int a8 t8, .int a9 t9, .int a10 t10, .int a11 t11, .int a12 t12]) (kw := []) (ve := .str (Str.ofString "latin-1") 453) (nm := nm) (a2 := a2) (t2 := t2) (a3 := a3) (t3 := t3) (a4 := a4) (t4 := t4) (a5 := a5) (t5 := t5) (a6 := a6) (t6 := t6) (a7 := a7) (t7 := t7) (a8 := a8) (t8 := t8) (a9 := a9) (t9 := t9) (a10 := a10) (t10 := t10) (a11 := a11) (t11 := t11) (a12 := a12) (t12 := t12) B F X N T hk hdp hun XB TB D sz ?hb9 ?hr9
  case hb9 => (refine Mine.bind_of_lookup (by k_is) ?_; intro s x hX; exact Mine.binds_load hX rfl (by k_is) (by kernel_rfl) (by kernel_rfl))
  case hr9 => (intro hZ x dx ds h' tk k1 k2 k3 k4 k5 k6 k7 k8 k9 k10 k11 k12 k13 k14 k15 k16 k17 k18 u2 u3 u4 u5 u6 u7 u8 u9 u10 u11 u12; exact hret hZ x dx ds h' tk k1 k2 k3 k4 k5 k6 k7 k8 k9 k10 k11 k12 k13 k14 k15 k16 k17 k18 u2 u3 u4 u5 u6 u7 u8 u9 u10 u11 u12 _)

theorem new {w : World} {mean : ExcName → Option Value} {mg mb : Str → Option Value} {dp un : Nat} {gd : Option (List Code)} {cn : Str} {cs : Scope} {a : Addr} {ccd : Value} {cl : List (Str × Addr)} {outer : List Env} {A₀ : Around} {base h₀ : Heap} {L : Addr} {m : Str → Option Value} {s : Shared} {Q E : Value → Shared → Prop} {news : List (Addr × Obj)} {nm ve : Value} {mt dm : Addr} {y mo d h mi se : Int} {k1 k2 k3 k4 k5 k6 t1 t2 t3 t4 t5 t6 : Tok}
    (B : Below A₀ base outer h₀) (F : Fr h₀ L s.heap m) (X : (Mine.Lt.names.heap_1 w.params).In h₀) (N : News h₀ L s.heap news) (T : Top topProg (Mine.LoOf Mine.Lt.names.view_1) mean mg mb h₀) (hk : cs.kind = .function) (hdp : dp + 80 < recursionLimit) (hun : un + 80 * 10 < cLine) (XB : (Mine.Lt.names.heap_1 w.params).In base) (TB : Top topProg (Mine.LoOf Mine.Lt.names.view_1) mean mg mb base) (D : KtsDicts (outer.filterMap (·.frame)) h₀)
    (m1 : (mt, instObj 104 dm) ∈ news) (m2 : (dm, dictOf [Mine.ent w "year" k1 (.int y t1), Mine.ent w "month" k2 (.int mo t2), Mine.ent w "day" k3 (.int d t3), Mine.ent w "hour" k4 (.int h t4), Mine.ent w "minute" k5 (.int mi t5), Mine.ent w "second" k6 (.int se t6)] 6) ∈ news) (okt : Mine.TimeOk h mi se) (okd : Mine.DateOk y mo d) (ge : 1980 ≤ y)
    (hret : ∀ (hZ : Heap) (x dx ds : Addr) (h' : Heap) (tk k1 k2 k3 k4 k5 k6 k7 k8 k9 k10 k11 k12 k13 k14 k15 k16 k17 k18 u2 u3 u4 u5 u6 u7 u8 u9 u10 u11 u12 : Nat), KtsTurn (outer.filterMap (·.frame)) h₀ hZ → Fr hZ L h' m → News hZ L h' ((x, instObj 595 dx) :: (dx, dictOf [Mine.ent w "name" k1 (nm), Mine.ent w "attr" k2 (.int 0 u2), Mine.ent w "ntres" k3 (.int 0 u3), Mine.ent w "crttimetenth" k4 (.int 0 u4), Mine.ent w "crttime" k5 (.int (h * 2048 + mi * 32 + se / 2) u5), Mine.ent w "crtdate" k6 (.int ((y - 1980) * 512 + mo * 32 + d) u6), Mine.ent w "lstaccessdate" k7 (.int ((y - 1980) * 512 + mo * 32 + d) u7), Mine.ent w "fstclushi" k8 (.int 0 u8), Mine.ent w "wrttime" k9 (.int (h * 2048 + mi * 32 + se / 2) u9), Mine.ent w "wrtdate" k10 (.int ((y - 1980) * 512 + mo * 32 + d) u10), Mine.ent w "fstcluslo" k11 (.int 0 u11), Mine.ent w "filesize" k12 (.int 0 u12), Mine.ent w "_lazy_load" k13 (.bool false), Mine.ent w "_fs" k14 (.none), Mine.ent w "_parent" k15 (.none), Mine.ent w "lfn_entry" k16 (.none), Mine.ent w "_dirs" k17 (.ref ds), Mine.ent w "_encoding" k18 (ve)] 18) :: news) → Below A₀ base outer hZ → (Mine.Lt.names.heap_1 w.params).In hZ → Top topProg (Mine.LoOf Mine.Lt.names.view_1) mean mg mb hZ → KtsDicts (outer.filterMap (·.frame)) hZ → (∀ p ∈ news, p.1 < dx) → dx < x → Q (.ref x) { s with heap := h', toks := tk }) :
    wpAny (model PySem.Challenge.rw_iw0015_01.row.prog w) (Mine.aTop none dp un gd cn cs L a ccd cl outer) (call (.ref 340) [nm, .ref mt, ve]) Q E s := by
  revert X; k_fill; intro X
  obtain ⟨sh9, sg9, sd9, st9, so9⟩ := s; (try dsimp only at F N); (try dsimp only at hret); (try dsimp only at hno)
  refine wpAny_call ?_
  k_dflt (refine' Mine.code_defT (binds := [((Str.ofString "name"), nm), ((Str.ofString "tz"), .ref mt), ((Str.ofString "encoding"), ve), ((Str.ofString "attr"), .int 0 786), ((Str.ofString "ntres"), .int 0 787), ((Str.ofString "cluster"), .int 0 788), ((Str.ofString "filesize"), .int 0 789)]) ?k1 ?k2 ?k3 ?k4 ?k5 ?XB ?TB ?D ?T0 ?kA ?kF ?cK ?k6 ?k7 ?k8 ?k9 ?kB ?_ ?c2 ?c3 ?c4 ?c5; (case kA => exact rfl); (case kF => exact rfl); (case k2 => k_asm); (case k1 => k_asm); (case XB => assumption); (case TB => assumption); (case D => assumption); (case T0 => exact KtsTurn.refl); (case k3 => k_asm); (case k4 => k_asm); (case k5 => k_asm); (case k6 => k_is); (case k7 => k_is); (case k8 => k_room); (case k9 => first | exact BindsTo.of_eq rfl | exact binds_K (by k_in) rfl (by k_is) rfl rfl rfl); (case kB => exact locs rfl); (case cK => first | assumption | exact rfl); (case c2 => exact rfl); (case c3 => exact rfl); (case c4 => exact rfl); (case c5 => decide); k_whole; intro g' L' h' FG' F' N' B' X' T' D'; (try dsimp only); (try k_fold))
  simp only [List.reverse_cons, List.reverse_nil, List.nil_append, List.cons_append] at F'
  refine Mine.gen_toks (fun tk0 => ?_)
  repeat' (first | ((with_reducible show wpAny _ _ (PySem.call (Prod.fst _) _ _) _ _ _); dsimp only [List.nil_append, List.cons_append]) | (k_here; (with_reducible show wpAny _ _ (PySem.call (Value.ref 595) [] _) _ _ _); k_dflt (refine' entk ?k1 ?k2 ?k3 ?k4 ?k5 ?k6 ?k7 ?k8 ?k9 ?k10 ?k11 ?vsz ?_; (case k1 => k_asm); (case k2 => k_asm); (case k3 => k_asm); (case k4 => k_asm); (case k5 => k_asm); (case k6 => first | assumption | exact rfl); (case k7 => k_room); (case k8 => k_units); (case k9 => assumption); (case k10 => assumption); (case k11 => assumption); (case vsz => first | assumption | omega); intro gS x' d' s' h' tk' q1 q2 q3 q4 q5 q6 q7 q8 q9 q10 q11 q12 q13 q14 q15 q16 q17 q18 z2 z3 z4 z5 z6 z7 z8 z9 z10 z11 z12 TS FS NS BS XS PS DS l1 l2; (try (replace TS := KtsTurn.trans (by assumption) TS)); (have e1 := l1); (have e2 := l2); (try k_lt e1); (try k_lt2 e2); (try dsimp only); (try k_sweep); (try k_fold))) | (k_here; (with_reducible show wpAny _ _ (PySem.call (Value.ref 74) [Value.ref _]) _ _ _); k_dflt (refine' s_date ?k1 ?k2 ?k3 ?k4 ?k5 ?k6 ?k7 ?k8 ?vm1 ?vm2 ?vokd ?vge ?_; (case k1 => k_asm); (case k2 => k_asm); (case k3 => k_asm); (case k4 => k_asm); (case k5 => k_asm); (case k6 => first | assumption | exact rfl); (case k7 => k_room); (case k8 => k_units); (case vm1 => k_mem); (case vm2 => k_mem); (case vokd => first | assumption | (unfold Mine.DateOk; omega)); (case vge => first | assumption | omega); intro h' tv tk' F' N'; (try dsimp only); (try k_sweep); (try k_fold))) | (k_here; (with_reducible show wpAny _ _ (PySem.call (Value.ref 81) [Value.ref _]) _ _ _); k_dflt (refine' s_time ?k1 ?k2 ?k3 ?k4 ?k5 ?k6 ?k7 ?k8 ?vm1 ?vm2 ?vokt ?_; (case k1 => k_asm); (case k2 => k_asm); (case k3 => k_asm); (case k4 => k_asm); (case k5 => k_asm); (case k6 => first | assumption | exact rfl); (case k7 => k_room); (case k8 => k_units); (case vm1 => k_mem); (case vm2 => k_mem); (case vokt => first | assumption | (unfold Mine.TimeOk; omega)); intro h' tv tk' F' N'; (try dsimp only); (try k_sweep); (try k_fold))) | (k_unfold; (try dsimp only)) | (k_end; wrow_close) | walk1 | (dsimp only; walk1) | (leave1; walk_say "STEP leave1"; try dsimp only) | fail "no step")
  all_goals (refine' hret _ x' d' _ _ _ _ _ _ _ _ _ _ _ _ _ _ _ _ _ _ _ _ _ _ _ _ _ _ _ _ _ _ _ _  ?zt ?zf ?zn ?zb ?zx ?zp ?zd (fun p hp => l1 p (by repeat (first | exact hp | refine List.mem_cons_of_mem _ ?_))) l2; (case zf => assumption); (case zn => (refine' Mine.news_drop ?nN ?nS; (case nN => assumption); (case nS => (refine' List.forall_mem_cons.mpr ⟨?ma, List.forall_mem_cons.mpr ⟨?mb, ?mc⟩⟩; (case ma => k_mem); (case mb => k_mem); (case mc => (intro p hp; repeat (first | exact hp | refine List.mem_cons_of_mem _ ?_))))))); (case zt => first | assumption | exact KtsTurn.refl); (case zb => assumption); (case zx => assumption); (case zp => assumption); (case zd => assumption))

theorem eight {w : World} {mean : ExcName → Option Value} {mg mb : Str → Option Value} {dp un : Nat} {gd : Option (List Code)} {cn : Str} {cs : Scope} {a : Addr} {ccd : Value} {cl : List (Str × Addr)} {outer : List Env} {A₀ : Around} {base h₀ : Heap} {L : Addr} {m : Str → Option Value} {s : Shared} {Q E : Value → Shared → Prop} {news : List (Addr × Obj)} {hd : Option Value} 
    (B : Below A₀ base outer h₀) (F : Fr h₀ L s.heap m) (X : (Mine.Lt.names.heap_1 w.params).In h₀) (N : News h₀ L s.heap news) (T : Top topProg (Mine.LoOf Mine.Lt.names.view_1) mean mg mb h₀) (hk : cs.kind = .function) (hdp : dp + 20 < recursionLimit) (hun : un + 20 * 10 < cLine)
    
    (hret : ∀ (x dx : Addr) (h' : Heap) (tk k1 k2 k3 u : Nat), Fr h₀ L h' m → News h₀ L h' ((x, instObj 305 dx) :: (dx, dictOf [Mine.ent w "name" k1 (.none), Mine.ent w "encoding" k2 (.str (Str.ofString "latin-1") u), Mine.ent w "initialized" k3 (.bool false)] 3) :: news) → (∀ p ∈ news, p.1 < dx) → dx < x → Q (.ref x) { s with heap := h', toks := tk }) :
    wpAny (model PySem.Challenge.rw_iw0015_01.row.prog w) (Mine.aTop hd dp un gd cn cs L a ccd cl outer) (call (.ref 305) []) Q E s := by
  revert X; k_fill; intro X
  obtain ⟨sh9, sg9, sd9, st9, so9⟩ := s; (try dsimp only at F N); (try dsimp only at hret); (try dsimp only at hno)
  (k_here; k_dflt ((refine' call_cls ?k1 ?k2 ?k3 ?k4 ?k5 ?k6 ?_; (case k1 => k_asm); (case k2 => k_asm); (case k3 => k_asm); (case k4 => k_is); (case k5 => k_is); (case k6 => k_is); k_whole; intro x' d' hN F₁ N₁ l1 l2; (have l1' := l1); (have l2' := l2); (try k_lt l1'); (try k_lt2 l2'); (try k_sweep))))
  k_dflt (refine' code_def (binds := [((Str.ofString "self"), .ref x'), ((Str.ofString "encoding"), .str (Str.ofString "latin-1") 453)]) ?k1 ?k2 ?k3 ?k4 ?k5 ?kA ?kF ?kK ?k6 ?k7 ?k8 ?k9 ?kB ?_ ?c2 ?c3 ?c4 ?c5; (case kA => exact rfl); (case kF => exact rfl); (case kK => first | assumption | exact rfl); (case k1 => k_asm); (case k2 => k_asm); (case k3 => k_asm); (case k4 => k_asm); (case k5 => k_asm); (case k6 => k_is); (case k7 => k_is); (case k8 => k_room); (case k9 => first | exact BindsTo.of_eq rfl | exact binds_K (by k_in) rfl (by k_is) rfl rfl rfl); (case c5 => decide); (case kB => exact locs rfl); (case c2 => exact rfl); (case c3 => exact rfl); (case c4 => exact rfl); k_whole; intro g' L' h' FG' F' N' B' X' T'; (try dsimp only); (try k_fold))
  simp only [List.reverse_cons, List.reverse_nil, List.nil_append, List.cons_append] at F'
  refine Mine.gen_toks (fun tk0 => ?_)
  repeat' (first | (k_unfold; (try dsimp only)) | (k_end; wrow_close) | walk1 | (dsimp only; walk1) | (leave1; walk_say "STEP leave1"; try dsimp only) | fail "no step")
  all_goals (refine' hret x' d' _ _ _ _ _ _ ?zf ?zn l1 l2; (case zn => assumption); (case zf => assumption))

theorem ldays {w : World} {mean : ExcName → Option Value} {mg mb : Str → Option Value} {dp un : Nat} {gd : Option (List Code)} {cn : Str} {cs : Scope} {a : Addr} {ccd : Value} {cl : List (Str × Addr)} {outer : List Env} {A₀ : Around} {base h₀ : Heap} {L : Addr} {m : Str → Option Value} {s : Shared} {Q E : Value → Shared → Prop} {news : List (Addr × Obj)} {hd : Option Value} {y mo : Int} {t1 t2 : Tok}
    (B : Below A₀ base outer h₀) (F : Fr h₀ L s.heap m) (X : (Mine.Lt.names.heap_1 w.params).In h₀) (N : News h₀ L s.heap news) (T : Top topProg (Mine.LoOf Mine.Lt.names.view_1) mean mg mb h₀) (hk : cs.kind = .function) (hdp : dp + 20 < recursionLimit) (hun : un + 20 * 10 < cLine)
    (b1 : 0 ≤ y) (b2 : y ≤ 10000) (b3 : 1 ≤ mo) (b4 : mo ≤ 13)
    (hret : ∀ (h' : Heap) (t tk : Nat), Fr h₀ L h' m → News h₀ L h' news → Q (.int (Mine.dayN y mo) t) { s with heap := h', toks := tk }) :
    wpAny (model PySem.Challenge.rw_iw0015_01.row.prog w) (Mine.aTop hd dp un gd cn cs L a ccd cl outer) (call (.ref 681) [.int y t1, .int mo t2]) Q E s := by
  revert X; k_fill; intro X
  obtain ⟨sh9, sg9, sd9, st9, so9⟩ := s; (try dsimp only at F N); (try dsimp only at hret); (try dsimp only at hno)
  refine wpAny_call ?_
  k_dflt (refine' code_def (binds := [((Str.ofString "year"), .int y t1), ((Str.ofString "month"), .int mo t2)]) ?k1 ?k2 ?k3 ?k4 ?k5 ?kA ?kF ?kK ?k6 ?k7 ?k8 ?k9 ?kB ?_ ?c2 ?c3 ?c4 ?c5; (case kA => exact rfl); (case kF => exact rfl); (case kK => first | assumption | exact rfl); (case k1 => k_asm); (case k2 => k_asm); (case k3 => k_asm); (case k4 => k_asm); (case k5 => k_asm); (case k6 => k_is); (case k7 => k_is); (case k8 => k_room); (case k9 => first | exact BindsTo.of_eq rfl | exact binds_K (by k_in) rfl (by k_is) rfl rfl rfl); (case c5 => decide); (case kB => exact locs rfl); (case c2 => exact rfl); (case c3 => exact rfl); (case c4 => exact rfl); k_whole; intro g' L' h' FG' F' N' B' X' T'; (try dsimp only); (try k_fold))
  simp only [List.reverse_cons, List.reverse_nil, List.nil_append, List.cons_append] at F'
  refine Mine.gen_toks (fun tk0 => ?_)
  repeat' (first | (k_unfold; (try dsimp only)) | (k_end; wrow_close) | walk1 | (dsimp only; walk1) | (leave1; walk_say "STEP leave1"; try dsimp only) | fail "no step")
  all_goals (refine Mine.int_eq (n := Mine.dayN y mo) rfl ?_; exact hret _ _ _ (by assumption) (Mine.news_drop (by assumption) (by intro p hp; repeat (first | exact hp | refine List.mem_cons_of_mem _ ?_))))

theorem lisday {w : World} {mean : ExcName → Option Value} {mg mb : Str → Option Value} {dp un : Nat} {gd : Option (List Code)} {cn : Str} {cs : Scope} {a : Addr} {ccd : Value} {cl : List (Str × Addr)} {outer : List Env} {A₀ : Around} {base h₀ : Heap} {L : Addr} {m : Str → Option Value} {s : Shared} {Q E : Value → Shared → Prop} {news : List (Addr × Obj)} {y mo d : Int} {t1 t2 t3 : Tok}
    (B : Below A₀ base outer h₀) (F : Fr h₀ L s.heap m) (X : (Mine.Lt.names.heap_1 w.params).In h₀) (N : News h₀ L s.heap news) (T : Top topProg (Mine.LoOf Mine.Lt.names.view_1) mean mg mb h₀) (hk : cs.kind = .function) (hdp : dp + 30 < recursionLimit) (hun : un + 30 * 10 < cLine)
    
    (hret : ∀ (h' : Heap) (tk : Nat), Fr h₀ L h' m → News h₀ L h' news → Q (.bool (decide (Mine.DateOk y mo d))) { s with heap := h', toks := tk }) :
    wpAny (model PySem.Challenge.rw_iw0015_01.row.prog w) (Mine.aTop none dp un gd cn cs L a ccd cl outer) (call (.ref 688) [.int y t1, .int mo t2, .int d t3]) Q E s := by
  revert X; k_fill; intro X
  obtain ⟨sh9, sg9, sd9, st9, so9⟩ := s; (try dsimp only at F N); (try dsimp only at hret); (try dsimp only at hno)
  refine wpAny_call ?_
  k_dflt (refine' code_def (binds := [((Str.ofString "year"), .int y t1), ((Str.ofString "month"), .int mo t2), ((Str.ofString "day"), .int d t3)]) ?k1 ?k2 ?k3 ?k4 ?k5 ?kA ?kF ?kK ?k6 ?k7 ?k8 ?k9 ?kB ?_ ?c2 ?c3 ?c4 ?c5; (case kA => exact rfl); (case kF => exact rfl); (case kK => first | assumption | exact rfl); (case k1 => k_asm); (case k2 => k_asm); (case k3 => k_asm); (case k4 => k_asm); (case k5 => k_asm); (case k6 => k_is); (case k7 => k_is); (case k8 => k_room); (case k9 => first | exact BindsTo.of_eq rfl | exact binds_K (by k_in) rfl (by k_is) rfl rfl rfl); (case c5 => decide); (case kB => exact locs rfl); (case c2 => exact rfl); (case c3 => exact rfl); (case c4 => exact rfl); k_whole; intro g' L' h' FG' F' N' B' X' T'; (try dsimp only); (try k_fold))
  simp only [List.reverse_cons, List.reverse_nil, List.nil_append, List.cons_append] at F'
  refine Mine.gen_toks (fun tk0 => ?_)
  repeat' (first | (k_here; (with_reducible show wpAny _ _ (PySem.call (Value.ref 681) [Value.int _ _, Value.int _ _]) _ _ _); k_dflt (refine' ldays ?k1 ?k2 ?k3 ?k4 ?k5 ?k6 ?k7 ?k8 ?vb1 ?vb2 ?vb3 ?vb4 ?_; (case k1 => k_asm); (case k2 => k_asm); (case k3 => k_asm); (case k4 => k_asm); (case k5 => k_asm); (case k6 => first | assumption | exact rfl); (case k7 => k_room); (case k8 => k_units); (case vb1 => first | assumption | omega); (case vb2 => first | assumption | omega); (case vb3 => first | assumption | omega); (case vb4 => first | assumption | omega); intro h' tv tk' F' N'; (try dsimp only); (try k_sweep); (try k_fold))) | (k_unfold; (try dsimp only)) | (k_end; wrow_close) | walk1 | (dsimp only; walk1) | (leave1; walk_say "STEP leave1"; try dsimp only) | fail "no step")
  all_goals (refine Mine.bool_eq (b := decide (Mine.DateOk y mo d)) ?_ ?_; rotate_left; exact hret _ _ (by assumption) (Mine.news_drop (by assumption) (by intro p hp; repeat (first | exact hp | refine List.mem_cons_of_mem _ ?_))); first | exact Mine.is_day (by assumption) (by assumption) (by assumption) (by assumption) (by assumption) | exact Mine.no_day (by omega))

theorem listime {w : World} {mean : ExcName → Option Value} {mg mb : Str → Option Value} {dp un : Nat} {gd : Option (List Code)} {cn : Str} {cs : Scope} {a : Addr} {ccd : Value} {cl : List (Str × Addr)} {outer : List Env} {A₀ : Around} {base h₀ : Heap} {L : Addr} {m : Str → Option Value} {s : Shared} {Q E : Value → Shared → Prop} {news : List (Addr × Obj)} {h mi se : Int} {t1 t2 t3 : Tok}
    (B : Below A₀ base outer h₀) (F : Fr h₀ L s.heap m) (X : (Mine.Lt.names.heap_1 w.params).In h₀) (N : News h₀ L s.heap news) (T : Top topProg (Mine.LoOf Mine.Lt.names.view_1) mean mg mb h₀) (hk : cs.kind = .function) (hdp : dp + 30 < recursionLimit) (hun : un + 30 * 10 < cLine)
    
    (hret : ∀ (h' : Heap) (tk : Nat), Fr h₀ L h' m → News h₀ L h' news → Q (.bool (decide (Mine.TimeOk h mi se))) { s with heap := h', toks := tk }) :
    wpAny (model PySem.Challenge.rw_iw0015_01.row.prog w) (Mine.aTop none dp un gd cn cs L a ccd cl outer) (call (.ref 695) [.int h t1, .int mi t2, .int se t3]) Q E s := by
  revert X; k_fill; intro X
  obtain ⟨sh9, sg9, sd9, st9, so9⟩ := s; (try dsimp only at F N); (try dsimp only at hret); (try dsimp only at hno)
  refine wpAny_call ?_
  k_dflt (refine' code_def (binds := [((Str.ofString "hour"), .int h t1), ((Str.ofString "minute"), .int mi t2), ((Str.ofString "second"), .int se t3)]) ?k1 ?k2 ?k3 ?k4 ?k5 ?kA ?kF ?kK ?k6 ?k7 ?k8 ?k9 ?kB ?_ ?c2 ?c3 ?c4 ?c5; (case kA => exact rfl); (case kF => exact rfl); (case kK => first | assumption | exact rfl); (case k1 => k_asm); (case k2 => k_asm); (case k3 => k_asm); (case k4 => k_asm); (case k5 => k_asm); (case k6 => k_is); (case k7 => k_is); (case k8 => k_room); (case k9 => first | exact BindsTo.of_eq rfl | exact binds_K (by k_in) rfl (by k_is) rfl rfl rfl); (case c5 => decide); (case kB => exact locs rfl); (case c2 => exact rfl); (case c3 => exact rfl); (case c4 => exact rfl); k_whole; intro g' L' h' FG' F' N' B' X' T'; (try dsimp only); (try k_fold))
  simp only [List.reverse_cons, List.reverse_nil, List.nil_append, List.cons_append] at F'
  refine Mine.gen_toks (fun tk0 => ?_)
  repeat' (first | (k_unfold; (try dsimp only)) | (k_end; wrow_close) | walk1 | (dsimp only; walk1) | (leave1; walk_say "STEP leave1"; try dsimp only) | fail "no step")
  all_goals (refine Mine.bool_eq (b := decide (Mine.TimeOk h mi se)) ?_ ?_; rotate_left; exact hret _ _ (by assumption) (Mine.news_drop (by assumption) (by intro p hp; repeat (first | exact hp | refine List.mem_cons_of_mem _ ?_))); exact decide_eq_decide.mpr (by unfold Mine.TimeOk; omega))

theorem ldate {w : World} {mean : ExcName → Option Value} {mg mb : Str → Option Value} {dp un : Nat} {gd : Option (List Code)} {cn : Str} {cs : Scope} {a : Addr} {ccd : Value} {cl : List (Str × Addr)} {outer : List Env} {A₀ : Around} {base h₀ : Heap} {L : Addr} {m : Str → Option Value} {s : Shared} {Q E : Value → Shared → Prop} {news : List (Addr × Obj)} {z : Int} {t1 : Tok}
    (B : Below A₀ base outer h₀) (F : Fr h₀ L s.heap m) (X : (Mine.Lt.names.heap_1 w.params).In h₀) (N : News h₀ L s.heap news) (T : Top topProg (Mine.LoOf Mine.Lt.names.view_1) mean mg mb h₀) (hk : cs.kind = .function) (hdp : dp + 50 < recursionLimit) (hun : un + 50 * 10 < cLine)
    (z0 : 0 ≤ z) (z1 : z < 65536)
    (hret : ∀ (l : Addr) (h' : Heap) (u1 u2 u3 tk : Nat), Fr h₀ L h' m → News h₀ L h' ((l, ({ cls := .type "tuple", data := .seq #[.int (Mine.dY z) u1, .int (Mine.dM z) u2, .int (Mine.dD z) u3] } : Obj)) :: news) → (∀ p ∈ news, p.1 < l) → Q (.ref l) { s with heap := h', toks := tk }) :
    wpAny (model PySem.Challenge.rw_iw0015_01.row.prog w) (Mine.aTop none dp un gd cn cs L a ccd cl outer) (call (.ref 702) [.int z t1]) Q E s := by
  revert X; k_fill; intro X
  obtain ⟨sh9, sg9, sd9, st9, so9⟩ := s; (try dsimp only at F N); (try dsimp only at hret); (try dsimp only at hno)
  refine wpAny_call ?_
  k_dflt (refine' code_def (binds := [((Str.ofString "word"), .int z t1)]) ?k1 ?k2 ?k3 ?k4 ?k5 ?kA ?kF ?kK ?k6 ?k7 ?k8 ?k9 ?kB ?_ ?c2 ?c3 ?c4 ?c5; (case kA => exact rfl); (case kF => exact rfl); (case kK => first | assumption | exact rfl); (case k1 => k_asm); (case k2 => k_asm); (case k3 => k_asm); (case k4 => k_asm); (case k5 => k_asm); (case k6 => k_is); (case k7 => k_is); (case k8 => k_room); (case k9 => first | exact BindsTo.of_eq rfl | exact binds_K (by k_in) rfl (by k_is) rfl rfl rfl); (case c5 => decide); (case kB => exact locs rfl); (case c2 => exact rfl); (case c3 => exact rfl); (case c4 => exact rfl); k_whole; intro g' L' h' FG' F' N' B' X' T'; (try dsimp only); (try k_fold))
  simp only [List.reverse_cons, List.reverse_nil, List.nil_append, List.cons_append] at F'
  refine Mine.gen_toks (fun tk0 => ?_)
  repeat' (first | (k_here; (with_reducible show wpAny _ _ (PySem.call (Value.ref 688) [Value.int _ _, Value.int _ _, Value.int _ _]) _ _ _); k_dflt (refine' lisday ?k1 ?k2 ?k3 ?k4 ?k5 ?k6 ?k7 ?k8 ?_; (case k1 => k_asm); (case k2 => k_asm); (case k3 => k_asm); (case k4 => k_asm); (case k5 => k_asm); (case k6 => first | assumption | exact rfl); (case k7 => k_room); (case k8 => k_units); intro h' tk' F' N'; (try dsimp only); (try k_sweep); (try k_fold))) | (k_unfold; (try dsimp only)) | (k_end; wrow_close) | walk1 | (dsimp only; walk1) | (leave1; walk_say "STEP leave1"; try dsimp only) | fail "no step")
  all_goals first | (obtain ⟨y1, y2, y3⟩ := Mine.ld_ok z0 z1 (by assumption); rw [← y1, ← y2, ← y3] at hret; exact hret _ _ _ _ _ _ (by assumption) (Mine.news_drop (by assumption) (by (refine List.forall_mem_cons.mpr ⟨by k_mem, ?_⟩; intro p hp; repeat (first | exact hp | refine List.mem_cons_of_mem _ ?_)))) (by first | assumption | exact ktn_ltOf (by assumption) | exact ktn_ltOf (And.right (by assumption)) | exact ktn_ltOf (And.right (And.right (by assumption))))) | (obtain ⟨y1, y2, y3⟩ := Mine.ld_bad z0 z1 (by assumption); rw [← y1, ← y2, ← y3] at hret; exact hret _ _ _ _ _ _ (by assumption) (Mine.news_drop (by assumption) (by (refine List.forall_mem_cons.mpr ⟨by k_mem, ?_⟩; intro p hp; repeat (first | exact hp | refine List.mem_cons_of_mem _ ?_)))) (by first | assumption | exact ktn_ltOf (by assumption) | exact ktn_ltOf (And.right (by assumption)) | exact ktn_ltOf (And.right (And.right (by assumption)))))

theorem ltim {w : World} {mean : ExcName → Option Value} {mg mb : Str → Option Value} {dp un : Nat} {gd : Option (List Code)} {cn : Str} {cs : Scope} {a : Addr} {ccd : Value} {cl : List (Str × Addr)} {outer : List Env} {A₀ : Around} {base h₀ : Heap} {L : Addr} {m : Str → Option Value} {s : Shared} {Q E : Value → Shared → Prop} {news : List (Addr × Obj)} {z : Int} {t1 : Tok}
    (B : Below A₀ base outer h₀) (F : Fr h₀ L s.heap m) (X : (Mine.Lt.names.heap_1 w.params).In h₀) (N : News h₀ L s.heap news) (T : Top topProg (Mine.LoOf Mine.Lt.names.view_1) mean mg mb h₀) (hk : cs.kind = .function) (hdp : dp + 50 < recursionLimit) (hun : un + 50 * 10 < cLine)
    (z0 : 0 ≤ z) (z1 : z < 65536)
    (hret : ∀ (l : Addr) (h' : Heap) (u1 u2 u3 tk : Nat), Fr h₀ L h' m → News h₀ L h' ((l, ({ cls := .type "tuple", data := .seq #[.int (Mine.tH z) u1, .int (Mine.tM z) u2, .int (Mine.tS z) u3] } : Obj)) :: news) → (∀ p ∈ news, p.1 < l) → Q (.ref l) { s with heap := h', toks := tk }) :
    wpAny (model PySem.Challenge.rw_iw0015_01.row.prog w) (Mine.aTop none dp un gd cn cs L a ccd cl outer) (call (.ref 709) [.int z t1]) Q E s := by
  revert X; k_fill; intro X
  obtain ⟨sh9, sg9, sd9, st9, so9⟩ := s; (try dsimp only at F N); (try dsimp only at hret); (try dsimp only at hno)
  refine wpAny_call ?_
  k_dflt (refine' code_def (binds := [((Str.ofString "word"), .int z t1)]) ?k1 ?k2 ?k3 ?k4 ?k5 ?kA ?kF ?kK ?k6 ?k7 ?k8 ?k9 ?kB ?_ ?c2 ?c3 ?c4 ?c5; (case kA => exact rfl); (case kF => exact rfl); (case kK => first | assumption | exact rfl); (case k1 => k_asm); (case k2 => k_asm); (case k3 => k_asm); (case k4 => k_asm); (case k5 => k_asm); (case k6 => k_is); (case k7 => k_is); (case k8 => k_room); (case k9 => first | exact BindsTo.of_eq rfl | exact binds_K (by k_in) rfl (by k_is) rfl rfl rfl); (case c5 => decide); (case kB => exact locs rfl); (case c2 => exact rfl); (case c3 => exact rfl); (case c4 => exact rfl); k_whole; intro g' L' h' FG' F' N' B' X' T'; (try dsimp only); (try k_fold))
  simp only [List.reverse_cons, List.reverse_nil, List.nil_append, List.cons_append] at F'
  refine Mine.gen_toks (fun tk0 => ?_)
  repeat' (first | (k_here; (with_reducible show wpAny _ _ (PySem.call (Value.ref 695) [Value.int _ _, Value.int _ _, Value.int _ _]) _ _ _); k_dflt (refine' listime ?k1 ?k2 ?k3 ?k4 ?k5 ?k6 ?k7 ?k8 ?_; (case k1 => k_asm); (case k2 => k_asm); (case k3 => k_asm); (case k4 => k_asm); (case k5 => k_asm); (case k6 => first | assumption | exact rfl); (case k7 => k_room); (case k8 => k_units); intro h' tk' F' N'; (try dsimp only); (try k_sweep); (try k_fold))) | (k_unfold; (try dsimp only)) | (k_end; wrow_close) | walk1 | (dsimp only; walk1) | (leave1; walk_say "STEP leave1"; try dsimp only) | fail "no step")
  all_goals first | (obtain ⟨y1, y2, y3⟩ := Mine.lt_ok z0 z1 (by assumption); rw [← y1, ← y2, ← y3] at hret; exact hret _ _ _ _ _ _ (by assumption) (Mine.news_drop (by assumption) (by (refine List.forall_mem_cons.mpr ⟨by k_mem, ?_⟩; intro p hp; repeat (first | exact hp | refine List.mem_cons_of_mem _ ?_)))) (by first | assumption | exact ktn_ltOf (by assumption) | exact ktn_ltOf (And.right (by assumption)) | exact ktn_ltOf (And.right (And.right (by assumption))))) | (obtain ⟨y1, y2, y3⟩ := Mine.lt_bad z0 z1 (by assumption); rw [← y1, ← y2, ← y3] at hret; exact hret _ _ _ _ _ _ (by assumption) (Mine.news_drop (by assumption) (by (refine List.forall_mem_cons.mpr ⟨by k_mem, ?_⟩; intro p hp; repeat (first | exact hp | refine List.mem_cons_of_mem _ ?_)))) (by first | assumption | exact ktn_ltOf (by assumption) | exact ktn_ltOf (And.right (by assumption)) | exact ktn_ltOf (And.right (And.right (by assumption)))))

theorem lword {w : World} {mean : ExcName → Option Value} {mg mb : Str → Option Value} {dp un : Nat} {gd : Option (List Code)} {cn : Str} {cs : Scope} {a : Addr} {ccd : Value} {cl : List (Str × Addr)} {outer : List Env} {A₀ : Around} {base h₀ : Heap} {L : Addr} {m : Str → Option Value} {s : Shared} {Q E : Value → Shared → Prop} {news : List (Addr × Obj)} {z y : Int} {t1 t2 : Tok}
    (B : Below A₀ base outer h₀) (F : Fr h₀ L s.heap m) (X : (Mine.Lt.names.heap_1 w.params).In h₀) (N : News h₀ L s.heap news) (T : Top topProg (Mine.LoOf Mine.Lt.names.view_1) mean mg mb h₀) (hk : cs.kind = .function) (hdp : dp + 70 < recursionLimit) (hun : un + 70 * 10 < cLine) (XB : (Mine.Lt.names.heap_1 w.params).In base) (TB : Top topProg (Mine.LoOf Mine.Lt.names.view_1) mean mg mb base) (D : KtsDicts (outer.filterMap (·.frame)) h₀)
    (z0 : 0 ≤ z) (z1 : z < 65536) (y0 : 0 ≤ y) (y1 : y < 65536)
    (hret : ∀ (hZ : Heap) (h' : Heap) (tk : Nat), KtsTurn (outer.filterMap (·.frame)) h₀ hZ → Fr hZ L h' m → News hZ L h' (news) → Below A₀ base outer hZ → (Mine.Lt.names.heap_1 w.params).In hZ → Top topProg (Mine.LoOf Mine.Lt.names.view_1) mean mg mb hZ → KtsDicts (outer.filterMap (·.frame)) hZ → Q (.bool true) { s with heap := h', toks := tk }) :
    wpAny (model PySem.Challenge.rw_iw0015_01.row.prog w) (Mine.aTop none dp un gd cn cs L a ccd cl outer) (call (.ref 723) [.int z t1, .int y t2]) Q E s := by
  have dk := Mine.d_isok z; have tkk := Mine.t_isok y; have dg := Mine.dY_ge z; have dl := Mine.dY_le z; have w7 := Mine.dlen_le (Mine.dY z) (Mine.dM z)
  have dk2 := dk; have tk2 := tkk; obtain ⟨w1, w2, w3, w4, w5, w6⟩ := dk2; obtain ⟨v1, v2, v3, v4, v5, v6⟩ := tk2
  revert X; k_fill; intro X
  obtain ⟨sh9, sg9, sd9, st9, so9⟩ := s; (try dsimp only at F N); (try dsimp only at hret); (try dsimp only at hno)
  refine wpAny_call ?_
  k_dflt (refine' Mine.code_defT (binds := [((Str.ofString "word"), .int z t1), ((Str.ofString "other"), .int y t2)]) ?k1 ?k2 ?k3 ?k4 ?k5 ?XB ?TB ?D ?T0 ?kA ?kF ?cK ?k6 ?k7 ?k8 ?k9 ?kB ?_ ?c2 ?c3 ?c4 ?c5; (case kA => exact rfl); (case kF => exact rfl); (case k2 => k_asm); (case k1 => k_asm); (case XB => assumption); (case TB => assumption); (case D => assumption); (case T0 => exact KtsTurn.refl); (case k3 => k_asm); (case k4 => k_asm); (case k5 => k_asm); (case k6 => k_is); (case k7 => k_is); (case k8 => k_room); (case k9 => first | exact BindsTo.of_eq rfl | exact binds_K (by k_in) rfl (by k_is) rfl rfl rfl); (case kB => exact locs rfl); (case cK => first | assumption | exact rfl); (case c2 => exact rfl); (case c3 => exact rfl); (case c4 => exact rfl); (case c5 => decide); k_whole; intro g' L' h' FG' F' N' B' X' T' D'; (try dsimp only); (try k_fold))
  simp only [List.reverse_cons, List.reverse_nil, List.nil_append, List.cons_append] at F'
  refine Mine.gen_toks (fun tk0 => ?_)
  repeat' (first | ((with_reducible show wpAny _ _ (PySem.execs (PySem.Stmt.Assign [PySem.Expr.Name (Str.ofString "back") _] _ _ :: _) _) _ _ _); (fail_if_success (have q := hs_back)); (with_reducible rename News _ _ _ _ => NS9); obtain ⟨led_back, NV9, hs_back⟩ := Mine.sealed NS9; clear NS9; (repeat (have q9 := Mine.sub_cons hs_back; clear hs_back; obtain ⟨mm9, hs_back⟩ := q9)); (try (repeat (with_reducible rename (_ ∈ news) => mo9; have mn9 := hs_back _ mo9; clear mo9))); (first | replace hsb := fun p hp => hs_back p (hsb p hp) | have hsb := hs_back); (try dsimp only)) | ((with_reducible show wpAny _ _ (PySem.execs (PySem.Stmt.Assign [PySem.Expr.Name (Str.ofString "moment") _] _ _ :: _) _) _ _ _); (fail_if_success (have q := hs_moment)); (with_reducible rename News _ _ _ _ => NS9); obtain ⟨led_moment, NV9, hs_moment⟩ := Mine.sealed NS9; clear NS9; (repeat (have q9 := Mine.sub_cons hs_moment; clear hs_moment; obtain ⟨mm9, hs_moment⟩ := q9)); (try (repeat (with_reducible rename (_ ∈ led_back) => mo9; have mn9 := hs_moment _ mo9; clear mo9))); (first | replace hsb := fun p hp => hs_moment p (hsb p hp) | have hsb := hs_moment); (try dsimp only)) | ((with_reducible show wpAny _ _ (PySem.execs (PySem.Stmt.Assign [PySem.Expr.Name (Str.ofString "again") _] _ _ :: _) _) _ _ _); (fail_if_success (have q := hs_again)); (with_reducible rename News _ _ _ _ => NS9); obtain ⟨led_again, NV9, hs_again⟩ := Mine.sealed NS9; clear NS9; (repeat (have q9 := Mine.sub_cons hs_again; clear hs_again; obtain ⟨mm9, hs_again⟩ := q9)); (try (repeat (with_reducible rename (_ ∈ led_back) => mo9; have mn9 := hs_again _ mo9; clear mo9))); (try (repeat (with_reducible rename (_ ∈ led_moment) => mo9; have mn9 := hs_again _ mo9; clear mo9))); (first | replace hsb := fun p hp => hs_again p (hsb p hp) | have hsb := hs_again); (try dsimp only)) | ((with_reducible show wpAny _ _ (PySem.call (Prod.fst _) _ _) _ _ _); dsimp only [List.nil_append, List.cons_append]) | (k_here; (with_reducible show wpAny _ _ (PySem.call (Value.ref 702) [Value.int _ _]) _ _ _); k_dflt (refine' ldate ?k1 ?k2 ?k3 ?k4 ?k5 ?k6 ?k7 ?k8 ?vz0 ?vz1 ?_; (case k1 => k_asm); (case k2 => k_asm); (case k3 => k_asm); (case k4 => k_asm); (case k5 => k_asm); (case k6 => first | assumption | exact rfl); (case k7 => k_room); (case k8 => k_units); (case vz0 => first | assumption | omega); (case vz1 => first | assumption | omega); intro l' h' u1' u2' u3' tk' F' N' l1; (have e1 := l1); (try k_lt e1); (try dsimp only); (try k_sweep); (try k_fold))) | (k_here; (with_reducible show wpAny _ _ (PySem.call (Value.ref 709) [Value.int _ _]) _ _ _); k_dflt (refine' ltim ?k1 ?k2 ?k3 ?k4 ?k5 ?k6 ?k7 ?k8 ?vz0 ?vz1 ?_; (case k1 => k_asm); (case k2 => k_asm); (case k3 => k_asm); (case k4 => k_asm); (case k5 => k_asm); (case k6 => first | assumption | exact rfl); (case k7 => k_room); (case k8 => k_units); (case vz0 => first | assumption | omega); (case vz1 => first | assumption | omega); intro l' h' u1' u2' u3' tk' F' N' l1; (have e1 := l1); (try k_lt e1); (try dsimp only); (try k_sweep); (try k_fold))) | (k_here; (with_reducible show wpAny _ _ (PySem.call (Value.ref 88) [Value.int _ _]) _ _ _); k_dflt (refine' d_date ?k1 ?k2 ?k3 ?k4 ?k5 ?k6 ?k7 ?k8 ?k9 ?k10 ?k11 ?_; (case k1 => k_asm); (case k2 => k_asm); (case k3 => k_asm); (case k4 => k_asm); (case k5 => k_asm); (case k6 => first | assumption | exact rfl); (case k7 => k_room); (case k8 => k_units); (case k9 => assumption); (case k10 => assumption); (case k11 => assumption); intro gS x' d' h' tk' q1 q2 q3 q4 q5 q6 z1 z2 z3 z4 z5 z6 TS FS NS BS XS PS DS l1 l2; (try (replace TS := KtsTurn.trans (by assumption) TS)); (have e1 := l1); (have e2 := l2); (try k_lt e1); (try k_lt2 e2); (try dsimp only); (try k_sweep); (try k_fold))) | (k_here; (with_reducible show wpAny _ _ (PySem.call (Value.ref 98) [Value.int _ _]) _ _ _); k_dflt (refine' d_time ?k1 ?k2 ?k3 ?k4 ?k5 ?k6 ?k7 ?k8 ?k9 ?k10 ?k11 ?_; (case k1 => k_asm); (case k2 => k_asm); (case k3 => k_asm); (case k4 => k_asm); (case k5 => k_asm); (case k6 => first | assumption | exact rfl); (case k7 => k_room); (case k8 => k_units); (case k9 => assumption); (case k10 => assumption); (case k11 => assumption); intro gS x' d' h' tk' q1 q2 q3 z1 z2 z3 TS FS NS BS XS PS DS l1 l2; (try (replace TS := KtsTurn.trans (by assumption) TS)); (have e1 := l1); (have e2 := l2); (try k_lt e1); (try k_lt2 e2); (try dsimp only); (try k_sweep); (try k_fold))) | (k_here; (with_reducible show wpAny _ _ (PySem.call (Value.ref 74) [Value.ref _]) _ _ _); k_dflt (refine' s_date ?k1 ?k2 ?k3 ?k4 ?k5 ?k6 ?k7 ?k8 ?vm1 ?vm2 ?vokd ?vge ?_; (case k1 => k_asm); (case k2 => k_asm); (case k3 => k_asm); (case k4 => k_asm); (case k5 => k_asm); (case k6 => first | assumption | exact rfl); (case k7 => k_room); (case k8 => k_units); (case vm1 => k_mem); (case vm2 => k_mem); (case vokd => first | assumption | exact Mine.d_isok _); (case vge => first | assumption | exact Mine.dY_ge _ | omega); intro h' tv tk' F' N'; (try dsimp only); (try k_sweep); (try k_fold))) | (k_here; (with_reducible show wpAny _ _ (PySem.call (Value.ref 81) [Value.ref _]) _ _ _); k_dflt (refine' s_time ?k1 ?k2 ?k3 ?k4 ?k5 ?k6 ?k7 ?k8 ?vm1 ?vm2 ?vokt ?_; (case k1 => k_asm); (case k2 => k_asm); (case k3 => k_asm); (case k4 => k_asm); (case k5 => k_asm); (case k6 => first | assumption | exact rfl); (case k7 => k_room); (case k8 => k_units); (case vm1 => k_mem); (case vm2 => k_mem); (case vokt => first | assumption | exact Mine.t_isok _ | exact Mine.zero_ok); intro h' tv tk' F' N'; (try dsimp only); (try k_sweep); (try k_fold))) | (k_here; (with_reducible show wpAny _ _ (PySem.call (Value.ref 64) [Value.ref _, Value.ref _]) _ _ _); k_dflt (refine' comb ?k1 ?k2 ?k3 ?k4 ?k5 ?k6 ?k7 ?k8 ?vm1 ?vm2 ?vm3 ?vm4 ?vokt ?vokd ?_; (case k1 => k_asm); (case k2 => k_asm); (case k3 => k_asm); (case k4 => k_asm); (case k5 => k_asm); (case k6 => first | assumption | exact rfl); (case k7 => k_room); (case k8 => k_units); (case vm1 => k_mem); (case vm2 => k_mem); (case vm3 => k_mem); (case vm4 => k_mem); (case vokt => first | assumption | exact Mine.t_isok _); (case vokd => first | assumption | exact Mine.d_isok _); intro x' d' h' tk' q1 q2 q3 q4 q5 q6 F' N' l1 l2; (have e1 := l1); (have e2 := l2); (try k_lt e1); (try k_lt2 e2); (try dsimp only); (try k_sweep); (try k_fold))) | (k_unfold; (try dsimp only)) | (k_end; wrow_close) | walk1 | (dsimp only; walk1) | (leave1; walk_say "STEP leave1"; try dsimp only) | fail "no step")
  all_goals first | (exfalso; first | exact absurd rfl (by assumption) | (have f9 := Mine.fdiv_e (Mine.tS y) (by decide : (0 : Int) ≤ 2); omega)) | (refine Mine.bool_eq (b := true) (by (try rw [Mine.fdiv_e (Mine.tS y) (by decide : (0 : Int) ≤ 2)]); exact beq_self_eq_true _) ?_; (refine' hret _ _ _ ?zt ?zf ?zn ?zb ?zx ?zp ?zd; (case zf => assumption); (case zn => (refine' Mine.news_drop ?nN ?nS; (case nN => assumption); (case nS => (intro p hp; repeat (first | exact hp | exact hsb _ hp | refine List.mem_cons_of_mem _ ?_))))); (case zt => first | assumption | exact KtsTurn.refl); (case zb => assumption); (case zx => assumption); (case zp => assumption); (case zd => assumption)))

theorem lmade0 {w : World} {mean : ExcName → Option Value} {mg mb : Str → Option Value} {dp un : Nat} {gd : Option (List Code)} {cn : Str} {cs : Scope} {a : Addr} {ccd : Value} {cl : List (Str × Addr)} {outer : List Env} {A₀ : Around} {base h₀ : Heap} {L : Addr} {m : Str → Option Value} {s : Shared} {Q E : Value → Shared → Prop} {news : List (Addr × Obj)} {nl n : Addr} {y mo d h mi se : Int} {t t1 t2 t3 t4 t5 t6 : Tok}
    (B : Below A₀ base outer h₀) (F : Fr h₀ L s.heap m) (X : (Mine.Lt.names.heap_1 w.params).In h₀) (N : News h₀ L s.heap news) (T : Top topProg (Mine.LoOf Mine.Lt.names.view_1) mean mg mb h₀) (hk : cs.kind = .function) (hdp : dp + 70 < recursionLimit) (hun : un + 70 * 10 < cLine) (XB : (Mine.Lt.names.heap_1 w.params).In base) (TB : Top topProg (Mine.LoOf Mine.Lt.names.view_1) mean mg mb base) (D : KtsDicts (outer.filterMap (·.frame)) h₀)
    (ml : (nl, PySem.W.listOf #[.int y t1, .int mo t2, .int d t3, .int h t4, .int mi t5, .int se t6] n) ∈ news)
    (hret : (Mine.DateOk y mo d ∧ Mine.TimeOk h mi se) → ∀ (hZ : Heap) (l : Addr) (h' : Heap) (u1 u2 u3 u4 u5 u6 tk : Nat), KtsTurn (outer.filterMap (·.frame)) h₀ hZ → Fr hZ L h' m → News hZ L h' ((l, ({ cls := .type "tuple", data := .seq #[.int y u1, .int mo u2, .int d u3, .int h u4, .int mi u5, .int se u6] } : Obj)) :: news) → Below A₀ base outer hZ → (Mine.Lt.names.heap_1 w.params).In hZ → Top topProg (Mine.LoOf Mine.Lt.names.view_1) mean mg mb hZ → KtsDicts (outer.filterMap (·.frame)) hZ → (∀ p ∈ news, p.1 < l) → Q (.ref l) { s with heap := h', toks := tk }) (hno : ¬ (Mine.DateOk y mo d ∧ Mine.TimeOk h mi se) → ∀ (hZ : Heap) (h' : Heap) (tk : Nat), KtsTurn (outer.filterMap (·.frame)) h₀ hZ → Fr hZ L h' m → News hZ L h' (news) → Below A₀ base outer hZ → (Mine.Lt.names.heap_1 w.params).In hZ → Top topProg (Mine.LoOf Mine.Lt.names.view_1) mean mg mb hZ → KtsDicts (outer.filterMap (·.frame)) hZ → Q .none { s with heap := h', toks := tk }) :
    wpAny (model PySem.Challenge.rw_iw0015_01.row.prog w) (Mine.aTop none dp un gd cn cs L a ccd cl outer) (call (.ref 716) [.int 0 t, .ref nl]) Q E s := by
  by_cases hOK : (Mine.DateOk y mo d ∧ Mine.TimeOk h mi se)
  · skip
    revert X; k_fill; intro X
    obtain ⟨sh9, sg9, sd9, st9, so9⟩ := s; (try dsimp only at F N); (try dsimp only at hret); (try dsimp only at hno)
    refine wpAny_call ?_
    k_dflt (refine' Mine.code_defT (binds := [((Str.ofString "way"), .int 0 t), ((Str.ofString "numbers"), .ref nl)]) ?k1 ?k2 ?k3 ?k4 ?k5 ?XB ?TB ?D ?T0 ?kA ?kF ?cK ?k6 ?k7 ?k8 ?k9 ?kB ?_ ?c2 ?c3 ?c4 ?c5; (case kA => exact rfl); (case kF => exact rfl); (case k2 => k_asm); (case k1 => k_asm); (case XB => assumption); (case TB => assumption); (case D => assumption); (case T0 => exact KtsTurn.refl); (case k3 => k_asm); (case k4 => k_asm); (case k5 => k_asm); (case k6 => k_is); (case k7 => k_is); (case k8 => k_room); (case k9 => first | exact BindsTo.of_eq rfl | exact binds_K (by k_in) rfl (by k_is) rfl rfl rfl); (case kB => exact locs rfl); (case cK => first | assumption | exact rfl); (case c2 => exact rfl); (case c3 => exact rfl); (case c4 => exact rfl); (case c5 => decide); k_whole; intro g' L' h' FG' F' N' B' X' T' D'; (try dsimp only); (try k_fold))
    simp only [List.reverse_cons, List.reverse_nil, List.nil_append, List.cons_append] at F'
    refine Mine.gen_toks (fun tk0 => ?_)
    repeat' (first | ((with_reducible show wpAny _ _ (subscriptTail _ _ (Value.ref _) (Value.int _ _)) _ _ _); k_here; k_dflt (refine' Mine.item_lit ?N ?m ?h0 ?hf ?hx ?_; (case N => k_asm); (case m => k_mem); (case h0 => decide); (case hf => decide); (case hx => exact rfl); k_whole)) | (k_here; (with_reducible show wpAny _ _ (PySem.call (Value.ref 104) [Value.int _ _, Value.int _ _, Value.int _ _, Value.int _ _, Value.int _ _, Value.int _ _]) _ _ _); k_dflt (refine' c_date ?k1 ?k2 ?k3 ?k4 ?k5 ?k6 ?k7 ?k8 ?vokt ?vokd ?_; (case k1 => k_asm); (case k2 => k_asm); (case k3 => k_asm); (case k4 => k_asm); (case k5 => k_asm); (case k6 => first | assumption | exact rfl); (case k7 => k_room); (case k8 => k_units); (case vokt => exact hOK.2); (case vokd => exact hOK.1); intro x' d' h' tk' q1 q2 q3 q4 q5 q6 F' N' l1 l2; (have e1 := l1); (have e2 := l2); (try k_lt e1); (try k_lt2 e2); (try dsimp only); (try k_sweep); (try k_fold))) | (k_here; (with_reducible show wpAny _ _ (PySem.call (Value.ref 104) [Value.int _ _, Value.int _ _, Value.int _ _, Value.int _ _, Value.int _ _, Value.int _ _]) _ _ _); k_dflt (refine' c_date_bad ?k1 ?k2 ?k3 ?k4 ?k5 ?k6 ?k7 ?k8 ?vbad ?_; (case k1 => k_asm); (case k2 => k_asm); (case k3 => k_asm); (case k4 => k_asm); (case k5 => k_asm); (case k6 => first | assumption | exact rfl); (case k7 => k_room); (case k8 => k_units); (case vbad => exact hOK); intro gE hE eE tE vE tkE FE UE SE RE; (try dsimp only); (try k_sweep); (try k_fold))) | (k_here; (with_reducible show wpAny _ _ (PySem.call (Value.ref 38) [Value.int _ _, Value.int _ _, Value.int _ _]) _ _ _); k_dflt (refine' c_time ?k1 ?k2 ?k3 ?k4 ?k5 ?k6 ?k7 ?k8 ?vok ?_; (case k1 => k_asm); (case k2 => k_asm); (case k3 => k_asm); (case k4 => k_asm); (case k5 => k_asm); (case k6 => first | assumption | exact rfl); (case k7 => k_room); (case k8 => k_units); (case vok => exact hOK); intro x' d' h' tk' q1 q2 q3 F' N' l1 l2; (have e1 := l1); (have e2 := l2); (try k_lt e1); (try k_lt2 e2); (try dsimp only); (try k_sweep); (try k_fold))) | (k_here; (with_reducible show wpAny _ _ (PySem.call (Value.ref 38) [Value.int _ _, Value.int _ _, Value.int _ _]) _ _ _); k_dflt (refine' c_time_bad ?k1 ?k2 ?k3 ?k4 ?k5 ?k6 ?k7 ?k8 ?vbad ?_; (case k1 => k_asm); (case k2 => k_asm); (case k3 => k_asm); (case k4 => k_asm); (case k5 => k_asm); (case k6 => first | assumption | exact rfl); (case k7 => k_room); (case k8 => k_units); (case vbad => exact hOK); intro gE hE eE tE vE tkE FE UE SE RE; (try dsimp only); (try k_sweep); (try k_fold))) | (k_unfold; (try dsimp only)) | (k_end; wrow_close) | walk1 | (dsimp only; walk1) | (leave1; walk_say "STEP leave1"; try dsimp only) | fail "no step")
    all_goals (refine' hret hOK _ _ _ _ _ _ _ _ _  _ ?zt ?zf ?zn ?zb ?zx ?zp ?zd ?zl; (case zn => exact (Mine.news_drop (by assumption) (by (refine List.forall_mem_cons.mpr ⟨by k_mem, ?_⟩; intro p hp; repeat (first | exact hp | refine List.mem_cons_of_mem _ ?_))))); (case zl => first | assumption | exact ktn_ltOf (by assumption) | exact ktn_ltOf (And.right (by assumption)) | exact ktn_ltOf (And.right (And.right (by assumption)))); (case zf => assumption); (case zt => first | assumption | exact KtsTurn.refl); (case zb => assumption); (case zx => assumption); (case zp => assumption); (case zd => assumption))
  · skip
    revert X; k_fill; intro X
    obtain ⟨sh9, sg9, sd9, st9, so9⟩ := s; (try dsimp only at F N); (try dsimp only at hret); (try dsimp only at hno)
    refine wpAny_call ?_
    k_dflt (refine' Mine.code_defT (binds := [((Str.ofString "way"), .int 0 t), ((Str.ofString "numbers"), .ref nl)]) ?k1 ?k2 ?k3 ?k4 ?k5 ?XB ?TB ?D ?T0 ?kA ?kF ?cK ?k6 ?k7 ?k8 ?k9 ?kB ?_ ?c2 ?c3 ?c4 ?c5; (case kA => exact rfl); (case kF => exact rfl); (case k2 => k_asm); (case k1 => k_asm); (case XB => assumption); (case TB => assumption); (case D => assumption); (case T0 => exact KtsTurn.refl); (case k3 => k_asm); (case k4 => k_asm); (case k5 => k_asm); (case k6 => k_is); (case k7 => k_is); (case k8 => k_room); (case k9 => first | exact BindsTo.of_eq rfl | exact binds_K (by k_in) rfl (by k_is) rfl rfl rfl); (case kB => exact locs rfl); (case cK => first | assumption | exact rfl); (case c2 => exact rfl); (case c3 => exact rfl); (case c4 => exact rfl); (case c5 => decide); k_whole; intro g' L' h' FG' F' N' B' X' T' D'; (try dsimp only); (try k_fold))
    simp only [List.reverse_cons, List.reverse_nil, List.nil_append, List.cons_append] at F'
    refine Mine.gen_toks (fun tk0 => ?_)
    repeat' (first | ((with_reducible show wpAny _ _ (subscriptTail _ _ (Value.ref _) (Value.int _ _)) _ _ _); k_here; k_dflt (refine' Mine.item_lit ?N ?m ?h0 ?hf ?hx ?_; (case N => k_asm); (case m => k_mem); (case h0 => decide); (case hf => decide); (case hx => exact rfl); k_whole)) | (k_here; (with_reducible show wpAny _ _ (PySem.call (Value.ref 104) [Value.int _ _, Value.int _ _, Value.int _ _, Value.int _ _, Value.int _ _, Value.int _ _]) _ _ _); k_dflt (refine' c_date ?k1 ?k2 ?k3 ?k4 ?k5 ?k6 ?k7 ?k8 ?vokt ?vokd ?_; (case k1 => k_asm); (case k2 => k_asm); (case k3 => k_asm); (case k4 => k_asm); (case k5 => k_asm); (case k6 => first | assumption | exact rfl); (case k7 => k_room); (case k8 => k_units); (case vokt => exact hOK.2); (case vokd => exact hOK.1); intro x' d' h' tk' q1 q2 q3 q4 q5 q6 F' N' l1 l2; (have e1 := l1); (have e2 := l2); (try k_lt e1); (try k_lt2 e2); (try dsimp only); (try k_sweep); (try k_fold))) | (k_here; (with_reducible show wpAny _ _ (PySem.call (Value.ref 104) [Value.int _ _, Value.int _ _, Value.int _ _, Value.int _ _, Value.int _ _, Value.int _ _]) _ _ _); k_dflt (refine' c_date_bad ?k1 ?k2 ?k3 ?k4 ?k5 ?k6 ?k7 ?k8 ?vbad ?_; (case k1 => k_asm); (case k2 => k_asm); (case k3 => k_asm); (case k4 => k_asm); (case k5 => k_asm); (case k6 => first | assumption | exact rfl); (case k7 => k_room); (case k8 => k_units); (case vbad => exact hOK); intro gE hE eE tE vE tkE FE UE SE RE; (try dsimp only); (try k_sweep); (try k_fold))) | (k_here; (with_reducible show wpAny _ _ (PySem.call (Value.ref 38) [Value.int _ _, Value.int _ _, Value.int _ _]) _ _ _); k_dflt (refine' c_time ?k1 ?k2 ?k3 ?k4 ?k5 ?k6 ?k7 ?k8 ?vok ?_; (case k1 => k_asm); (case k2 => k_asm); (case k3 => k_asm); (case k4 => k_asm); (case k5 => k_asm); (case k6 => first | assumption | exact rfl); (case k7 => k_room); (case k8 => k_units); (case vok => exact hOK); intro x' d' h' tk' q1 q2 q3 F' N' l1 l2; (have e1 := l1); (have e2 := l2); (try k_lt e1); (try k_lt2 e2); (try dsimp only); (try k_sweep); (try k_fold))) | (k_here; (with_reducible show wpAny _ _ (PySem.call (Value.ref 38) [Value.int _ _, Value.int _ _, Value.int _ _]) _ _ _); k_dflt (refine' c_time_bad ?k1 ?k2 ?k3 ?k4 ?k5 ?k6 ?k7 ?k8 ?vbad ?_; (case k1 => k_asm); (case k2 => k_asm); (case k3 => k_asm); (case k4 => k_asm); (case k5 => k_asm); (case k6 => first | assumption | exact rfl); (case k7 => k_room); (case k8 => k_units); (case vbad => exact hOK); intro gE hE eE tE vE tkE FE UE SE RE; (try dsimp only); (try k_sweep); (try k_fold))) | (k_unfold; (try dsimp only)) | (k_end; wrow_close) | walk1 | (dsimp only; walk1) | (leave1; walk_say "STEP leave1"; try dsimp only) | fail "no step")
    all_goals (refine' hno hOK _ _ _ ?zt ?zf ?zn ?zb ?zx ?zp ?zd; (case zn => exact (Mine.news_drop (by assumption) (by intro p hp; repeat (first | exact hp | refine List.mem_cons_of_mem _ ?_)))); (case zf => assumption); (case zt => first | assumption | exact KtsTurn.refl); (case zb => assumption); (case zx => assumption); (case zp => assumption); (case zd => assumption))

theorem lmade1 {w : World} {mean : ExcName → Option Value} {mg mb : Str → Option Value} {dp un : Nat} {gd : Option (List Code)} {cn : Str} {cs : Scope} {a : Addr} {ccd : Value} {cl : List (Str × Addr)} {outer : List Env} {A₀ : Around} {base h₀ : Heap} {L : Addr} {m : Str → Option Value} {s : Shared} {Q E : Value → Shared → Prop} {news : List (Addr × Obj)} {nl n : Addr} {y mo d h mi se : Int} {t t1 t2 t3 t4 t5 t6 : Tok}
    (B : Below A₀ base outer h₀) (F : Fr h₀ L s.heap m) (X : (Mine.Lt.names.heap_1 w.params).In h₀) (N : News h₀ L s.heap news) (T : Top topProg (Mine.LoOf Mine.Lt.names.view_1) mean mg mb h₀) (hk : cs.kind = .function) (hdp : dp + 70 < recursionLimit) (hun : un + 70 * 10 < cLine) (XB : (Mine.Lt.names.heap_1 w.params).In base) (TB : Top topProg (Mine.LoOf Mine.Lt.names.view_1) mean mg mb base) (D : KtsDicts (outer.filterMap (·.frame)) h₀)
    (ml : (nl, PySem.W.listOf #[.int y t1, .int mo t2, .int d t3, .int h t4, .int mi t5, .int se t6] n) ∈ news)
    (hret : Mine.TimeOk h mi se → ∀ (hZ : Heap) (l : Addr) (h' : Heap) (u1 u2 u3 tk : Nat), KtsTurn (outer.filterMap (·.frame)) h₀ hZ → Fr hZ L h' m → News hZ L h' ((l, ({ cls := .type "tuple", data := .seq #[.int h u1, .int mi u2, .int se u3] } : Obj)) :: news) → Below A₀ base outer hZ → (Mine.Lt.names.heap_1 w.params).In hZ → Top topProg (Mine.LoOf Mine.Lt.names.view_1) mean mg mb hZ → KtsDicts (outer.filterMap (·.frame)) hZ → (∀ p ∈ news, p.1 < l) → Q (.ref l) { s with heap := h', toks := tk }) (hno : ¬ Mine.TimeOk h mi se → ∀ (hZ : Heap) (h' : Heap) (tk : Nat), KtsTurn (outer.filterMap (·.frame)) h₀ hZ → Fr hZ L h' m → News hZ L h' (news) → Below A₀ base outer hZ → (Mine.Lt.names.heap_1 w.params).In hZ → Top topProg (Mine.LoOf Mine.Lt.names.view_1) mean mg mb hZ → KtsDicts (outer.filterMap (·.frame)) hZ → Q .none { s with heap := h', toks := tk }) :
    wpAny (model PySem.Challenge.rw_iw0015_01.row.prog w) (Mine.aTop none dp un gd cn cs L a ccd cl outer) (call (.ref 716) [.int 1 t, .ref nl]) Q E s := by
  by_cases hOK : Mine.TimeOk h mi se
  · skip
    revert X; k_fill; intro X
    obtain ⟨sh9, sg9, sd9, st9, so9⟩ := s; (try dsimp only at F N); (try dsimp only at hret); (try dsimp only at hno)
    refine wpAny_call ?_
    k_dflt (refine' Mine.code_defT (binds := [((Str.ofString "way"), .int 1 t), ((Str.ofString "numbers"), .ref nl)]) ?k1 ?k2 ?k3 ?k4 ?k5 ?XB ?TB ?D ?T0 ?kA ?kF ?cK ?k6 ?k7 ?k8 ?k9 ?kB ?_ ?c2 ?c3 ?c4 ?c5; (case kA => exact rfl); (case kF => exact rfl); (case k2 => k_asm); (case k1 => k_asm); (case XB => assumption); (case TB => assumption); (case D => assumption); (case T0 => exact KtsTurn.refl); (case k3 => k_asm); (case k4 => k_asm); (case k5 => k_asm); (case k6 => k_is); (case k7 => k_is); (case k8 => k_room); (case k9 => first | exact BindsTo.of_eq rfl | exact binds_K (by k_in) rfl (by k_is) rfl rfl rfl); (case kB => exact locs rfl); (case cK => first | assumption | exact rfl); (case c2 => exact rfl); (case c3 => exact rfl); (case c4 => exact rfl); (case c5 => decide); k_whole; intro g' L' h' FG' F' N' B' X' T' D'; (try dsimp only); (try k_fold))
    simp only [List.reverse_cons, List.reverse_nil, List.nil_append, List.cons_append] at F'
    refine Mine.gen_toks (fun tk0 => ?_)
    repeat' (first | ((with_reducible show wpAny _ _ (subscriptTail _ _ (Value.ref _) (Value.int _ _)) _ _ _); k_here; k_dflt (refine' Mine.item_lit ?N ?m ?h0 ?hf ?hx ?_; (case N => k_asm); (case m => k_mem); (case h0 => decide); (case hf => decide); (case hx => exact rfl); k_whole)) | (k_here; (with_reducible show wpAny _ _ (PySem.call (Value.ref 104) [Value.int _ _, Value.int _ _, Value.int _ _, Value.int _ _, Value.int _ _, Value.int _ _]) _ _ _); k_dflt (refine' c_date ?k1 ?k2 ?k3 ?k4 ?k5 ?k6 ?k7 ?k8 ?vokt ?vokd ?_; (case k1 => k_asm); (case k2 => k_asm); (case k3 => k_asm); (case k4 => k_asm); (case k5 => k_asm); (case k6 => first | assumption | exact rfl); (case k7 => k_room); (case k8 => k_units); (case vokt => exact hOK.2); (case vokd => exact hOK.1); intro x' d' h' tk' q1 q2 q3 q4 q5 q6 F' N' l1 l2; (have e1 := l1); (have e2 := l2); (try k_lt e1); (try k_lt2 e2); (try dsimp only); (try k_sweep); (try k_fold))) | (k_here; (with_reducible show wpAny _ _ (PySem.call (Value.ref 104) [Value.int _ _, Value.int _ _, Value.int _ _, Value.int _ _, Value.int _ _, Value.int _ _]) _ _ _); k_dflt (refine' c_date_bad ?k1 ?k2 ?k3 ?k4 ?k5 ?k6 ?k7 ?k8 ?vbad ?_; (case k1 => k_asm); (case k2 => k_asm); (case k3 => k_asm); (case k4 => k_asm); (case k5 => k_asm); (case k6 => first | assumption | exact rfl); (case k7 => k_room); (case k8 => k_units); (case vbad => exact hOK); intro gE hE eE tE vE tkE FE UE SE RE; (try dsimp only); (try k_sweep); (try k_fold))) | (k_here; (with_reducible show wpAny _ _ (PySem.call (Value.ref 38) [Value.int _ _, Value.int _ _, Value.int _ _]) _ _ _); k_dflt (refine' c_time ?k1 ?k2 ?k3 ?k4 ?k5 ?k6 ?k7 ?k8 ?vok ?_; (case k1 => k_asm); (case k2 => k_asm); (case k3 => k_asm); (case k4 => k_asm); (case k5 => k_asm); (case k6 => first | assumption | exact rfl); (case k7 => k_room); (case k8 => k_units); (case vok => exact hOK); intro x' d' h' tk' q1 q2 q3 F' N' l1 l2; (have e1 := l1); (have e2 := l2); (try k_lt e1); (try k_lt2 e2); (try dsimp only); (try k_sweep); (try k_fold))) | (k_here; (with_reducible show wpAny _ _ (PySem.call (Value.ref 38) [Value.int _ _, Value.int _ _, Value.int _ _]) _ _ _); k_dflt (refine' c_time_bad ?k1 ?k2 ?k3 ?k4 ?k5 ?k6 ?k7 ?k8 ?vbad ?_; (case k1 => k_asm); (case k2 => k_asm); (case k3 => k_asm); (case k4 => k_asm); (case k5 => k_asm); (case k6 => first | assumption | exact rfl); (case k7 => k_room); (case k8 => k_units); (case vbad => exact hOK); intro gE hE eE tE vE tkE FE UE SE RE; (try dsimp only); (try k_sweep); (try k_fold))) | (k_unfold; (try dsimp only)) | (k_end; wrow_close) | walk1 | (dsimp only; walk1) | (leave1; walk_say "STEP leave1"; try dsimp only) | fail "no step")
    all_goals (refine' hret hOK _ _ _ _ _ _  _ ?zt ?zf ?zn ?zb ?zx ?zp ?zd ?zl; (case zn => exact (Mine.news_drop (by assumption) (by (refine List.forall_mem_cons.mpr ⟨by k_mem, ?_⟩; intro p hp; repeat (first | exact hp | refine List.mem_cons_of_mem _ ?_))))); (case zl => first | assumption | exact ktn_ltOf (by assumption) | exact ktn_ltOf (And.right (by assumption)) | exact ktn_ltOf (And.right (And.right (by assumption)))); (case zf => assumption); (case zt => first | assumption | exact KtsTurn.refl); (case zb => assumption); (case zx => assumption); (case zp => assumption); (case zd => assumption))
  · skip
    revert X; k_fill; intro X
    obtain ⟨sh9, sg9, sd9, st9, so9⟩ := s; (try dsimp only at F N); (try dsimp only at hret); (try dsimp only at hno)
    refine wpAny_call ?_
    k_dflt (refine' Mine.code_defT (binds := [((Str.ofString "way"), .int 1 t), ((Str.ofString "numbers"), .ref nl)]) ?k1 ?k2 ?k3 ?k4 ?k5 ?XB ?TB ?D ?T0 ?kA ?kF ?cK ?k6 ?k7 ?k8 ?k9 ?kB ?_ ?c2 ?c3 ?c4 ?c5; (case kA => exact rfl); (case kF => exact rfl); (case k2 => k_asm); (case k1 => k_asm); (case XB => assumption); (case TB => assumption); (case D => assumption); (case T0 => exact KtsTurn.refl); (case k3 => k_asm); (case k4 => k_asm); (case k5 => k_asm); (case k6 => k_is); (case k7 => k_is); (case k8 => k_room); (case k9 => first | exact BindsTo.of_eq rfl | exact binds_K (by k_in) rfl (by k_is) rfl rfl rfl); (case kB => exact locs rfl); (case cK => first | assumption | exact rfl); (case c2 => exact rfl); (case c3 => exact rfl); (case c4 => exact rfl); (case c5 => decide); k_whole; intro g' L' h' FG' F' N' B' X' T' D'; (try dsimp only); (try k_fold))
    simp only [List.reverse_cons, List.reverse_nil, List.nil_append, List.cons_append] at F'
    refine Mine.gen_toks (fun tk0 => ?_)
    repeat' (first | ((with_reducible show wpAny _ _ (subscriptTail _ _ (Value.ref _) (Value.int _ _)) _ _ _); k_here; k_dflt (refine' Mine.item_lit ?N ?m ?h0 ?hf ?hx ?_; (case N => k_asm); (case m => k_mem); (case h0 => decide); (case hf => decide); (case hx => exact rfl); k_whole)) | (k_here; (with_reducible show wpAny _ _ (PySem.call (Value.ref 104) [Value.int _ _, Value.int _ _, Value.int _ _, Value.int _ _, Value.int _ _, Value.int _ _]) _ _ _); k_dflt (refine' c_date ?k1 ?k2 ?k3 ?k4 ?k5 ?k6 ?k7 ?k8 ?vokt ?vokd ?_; (case k1 => k_asm); (case k2 => k_asm); (case k3 => k_asm); (case k4 => k_asm); (case k5 => k_asm); (case k6 => first | assumption | exact rfl); (case k7 => k_room); (case k8 => k_units); (case vokt => exact hOK.2); (case vokd => exact hOK.1); intro x' d' h' tk' q1 q2 q3 q4 q5 q6 F' N' l1 l2; (have e1 := l1); (have e2 := l2); (try k_lt e1); (try k_lt2 e2); (try dsimp only); (try k_sweep); (try k_fold))) | (k_here; (with_reducible show wpAny _ _ (PySem.call (Value.ref 104) [Value.int _ _, Value.int _ _, Value.int _ _, Value.int _ _, Value.int _ _, Value.int _ _]) _ _ _); k_dflt (refine' c_date_bad ?k1 ?k2 ?k3 ?k4 ?k5 ?k6 ?k7 ?k8 ?vbad ?_; (case k1 => k_asm); (case k2 => k_asm); (case k3 => k_asm); (case k4 => k_asm); (case k5 => k_asm); (case k6 => first | assumption | exact rfl); (case k7 => k_room); (case k8 => k_units); (case vbad => exact hOK); intro gE hE eE tE vE tkE FE UE SE RE; (try dsimp only); (try k_sweep); (try k_fold))) | (k_here; (with_reducible show wpAny _ _ (PySem.call (Value.ref 38) [Value.int _ _, Value.int _ _, Value.int _ _]) _ _ _); k_dflt (refine' c_time ?k1 ?k2 ?k3 ?k4 ?k5 ?k6 ?k7 ?k8 ?vok ?_; (case k1 => k_asm); (case k2 => k_asm); (case k3 => k_asm); (case k4 => k_asm); (case k5 => k_asm); (case k6 => first | assumption | exact rfl); (case k7 => k_room); (case k8 => k_units); (case vok => exact hOK); intro x' d' h' tk' q1 q2 q3 F' N' l1 l2; (have e1 := l1); (have e2 := l2); (try k_lt e1); (try k_lt2 e2); (try dsimp only); (try k_sweep); (try k_fold))) | (k_here; (with_reducible show wpAny _ _ (PySem.call (Value.ref 38) [Value.int _ _, Value.int _ _, Value.int _ _]) _ _ _); k_dflt (refine' c_time_bad ?k1 ?k2 ?k3 ?k4 ?k5 ?k6 ?k7 ?k8 ?vbad ?_; (case k1 => k_asm); (case k2 => k_asm); (case k3 => k_asm); (case k4 => k_asm); (case k5 => k_asm); (case k6 => first | assumption | exact rfl); (case k7 => k_room); (case k8 => k_units); (case vbad => exact hOK); intro gE hE eE tE vE tkE FE UE SE RE; (try dsimp only); (try k_sweep); (try k_fold))) | (k_unfold; (try dsimp only)) | (k_end; wrow_close) | walk1 | (dsimp only; walk1) | (leave1; walk_say "STEP leave1"; try dsimp only) | fail "no step")
    all_goals (refine' hno hOK _ _ _ ?zt ?zf ?zn ?zb ?zx ?zp ?zd; (case zn => exact (Mine.news_drop (by assumption) (by intro p hp; repeat (first | exact hp | refine List.mem_cons_of_mem _ ?_)))); (case zf => assumption); (case zt => first | assumption | exact KtsTurn.refl); (case zb => assumption); (case zx => assumption); (case zp => assumption); (case zd => assumption))

theorem chkE {w : World} {mean : ExcName → Option Value} {mg mb : Str → Option Value} {dp un : Nat} {gd : Option (List Code)} {cn : Str} {cs : Scope} {a : Addr} {ccd : Value} {cl : List (Str × Addr)} {outer : List Env} {A₀ : Around} {base h₀ : Heap} {L : Addr} {m : Str → Option Value} {s : Shared} {Q E : Value → Shared → Prop} {news : List (Addr × Obj)} {t : Tok} {ve : Value}
    (B : Below A₀ base outer h₀) (F : Fr h₀ L s.heap m) (X : (Mine.Lt.names.heap_1 w.params).In h₀) (N : News h₀ L s.heap news) (T : Top topProg (Mine.LoOf Mine.Lt.names.view_1) mean mg mb h₀) (hk : cs.kind = .function) (hdp : dp + 40 < recursionLimit) (hun : un + 40 * 10 < cLine)
    
    (hret : ∀ (h' : Heap) (tk : Nat), Fr h₀ L h' m → News h₀ L h' news → Q .none { s with heap := h', toks := tk }) :
    wpAny (model PySem.Challenge.rw_iw0015_01.row.prog w) (Mine.aTop none dp un gd cn cs L a ccd cl outer) (call (.ref 268) [.str (Str.ofString "") t] [(Str.ofString "encoding", ve)]) Q E s := by
  revert X; k_fill; intro X
  obtain ⟨sh9, sg9, sd9, st9, so9⟩ := s; (try dsimp only at F N); (try dsimp only at hret); (try dsimp only at hno)
  refine wpAny_call ?_
  k_dflt (refine' code_def (binds := [((Str.ofString "name"), .str (Str.ofString "") t), ((Str.ofString "encoding"), ve)]) ?k1 ?k2 ?k3 ?k4 ?k5 ?kA ?kF ?kK ?k6 ?k7 ?k8 ?k9 ?kB ?_ ?c2 ?c3 ?c4 ?c5; (case kA => exact rfl); (case kF => exact rfl); (case kK => first | assumption | exact rfl); (case k1 => k_asm); (case k2 => k_asm); (case k3 => k_asm); (case k4 => k_asm); (case k5 => k_asm); (case k6 => k_is); (case k7 => k_is); (case k8 => k_room); (case k9 => first | exact BindsTo.of_eq rfl | exact binds_K (by k_in) rfl (by k_is) rfl rfl rfl); (case c5 => decide); (case kB => exact locs rfl); (case c2 => exact rfl); (case c3 => exact rfl); (case c4 => exact rfl); k_whole; intro g' L' h' FG' F' N' B' X' T'; (try dsimp only); (try k_fold))
  simp only [List.reverse_cons, List.reverse_nil, List.nil_append, List.cons_append] at F'
  refine Mine.gen_toks (fun tk0 => ?_)
  repeat' (first | ((with_reducible show UnrEnd _ _ _ _ _ _ _); refine' UnrEnd.intro ?uF ?uN news ?uS ?uO ?_; (case uF => assumption); (case uN => assumption); (case uS => (refine List.forall_mem_cons.mpr ⟨by k_mem, ?_⟩; intro p hp; repeat (first | exact hp | refine List.mem_cons_of_mem _ ?_))); (case uO => (intro p hp; exact Nat.ne_of_lt ((by assumption : ∀ p ∈ news, p.1 < _) p hp)))) | (k_here; (with_reducible show wpAny _ _ (PySem.call (Value.ref 162) [Value.str _ _]) _ _ _); k_dflt (refine' enc ?k1 ?k2 ?k3 ?k4 ?k5 ?k6 ?k7 ?k8 ?vasc ?vsz ?_; (case k1 => k_asm); (case k2 => k_asm); (case k3 => k_asm); (case k4 => k_asm); (case k5 => k_asm); (case k6 => first | assumption | exact rfl); (case k7 => k_room); (case k8 => k_units); (case vasc => first | assumption | decide +kernel); (case vsz => first | assumption | decide +kernel); intro h' tv tk' F' N'; (try simp only [Mine.bytesE, Mine.bytesW, Mine.bytesM, Mine.bytesPW, Mine.bytesPM]); (try dsimp only); (try k_sweep); (try k_fold))) | (k_unfold; (try dsimp only)) | (k_end; wrow_close) | walk1 | (dsimp only; walk1) | (leave1; walk_say "STEP leave1"; try dsimp only) | fail "no step")
  all_goals exact hret _ _ (by assumption) (Mine.news_drop (by assumption) (by intro p hp; repeat (first | exact hp | refine List.mem_cons_of_mem _ ?_)))

theorem splW {w : World} {mean : ExcName → Option Value} {mg mb : Str → Option Value} {dp un : Nat} {gd : Option (List Code)} {cn : Str} {cs : Scope} {a : Addr} {ccd : Value} {cl : List (Str × Addr)} {outer : List Env} {A₀ : Around} {base h₀ : Heap} {L : Addr} {m : Str → Option Value} {s : Shared} {Q E : Value → Shared → Prop} {news : List (Addr × Obj)} {t : Tok}
    (B : Below A₀ base outer h₀) (F : Fr h₀ L s.heap m) (X : (Mine.Lt.names.heap_1 w.params).In h₀) (N : News h₀ L s.heap news) (T : Top topProg (Mine.LoOf Mine.Lt.names.view_1) mean mg mb h₀) (hk : cs.kind = .function) (hdp : dp + 20 < recursionLimit) (hun : un + 20 * 10 < cLine)
    
    (hret : ∀ (D : Addr) (h' : Heap) (tk u1 u2 : Nat), Fr h₀ L h' m → News h₀ L h' ((D, ({ cls := .type "tuple", data := .seq #[.str (Str.ofString "WORDS") u1, .str (Str.ofString "") u2] } : Obj)) :: news) → (∀ p ∈ news, p.1 < D) → Q (.ref D) { s with heap := h', toks := tk }) :
    wpAny (model PySem.Challenge.rw_iw0015_01.row.prog w) (Mine.aTop none dp un gd cn cs L a ccd cl outer) (call (.ref 179) [.str (Str.ofString "WORDS") t]) Q E s := by
  revert X; k_fill; intro X
  obtain ⟨sh9, sg9, sd9, st9, so9⟩ := s; (try dsimp only at F N); (try dsimp only at hret); (try dsimp only at hno)
  refine wpAny_call ?_
  k_dflt (refine' code_def (binds := [((Str.ofString "path"), .str (Str.ofString "WORDS") t)]) ?k1 ?k2 ?k3 ?k4 ?k5 ?kA ?kF ?kK ?k6 ?k7 ?k8 ?k9 ?kB ?_ ?c2 ?c3 ?c4 ?c5; (case kA => exact rfl); (case kF => exact rfl); (case kK => first | assumption | exact rfl); (case k1 => k_asm); (case k2 => k_asm); (case k3 => k_asm); (case k4 => k_asm); (case k5 => k_asm); (case k6 => k_is); (case k7 => k_is); (case k8 => k_room); (case k9 => first | exact BindsTo.of_eq rfl | exact binds_K (by k_in) rfl (by k_is) rfl rfl rfl); (case c5 => decide); (case kB => exact locs rfl); (case c2 => exact rfl); (case c3 => exact rfl); (case c4 => exact rfl); k_whole; intro g' L' h' FG' F' N' B' X' T'; (try dsimp only); (try k_fold))
  simp only [List.reverse_cons, List.reverse_nil, List.nil_append, List.cons_append] at F'
  refine Mine.gen_toks (fun tk0 => ?_)
  repeat' (first | (k_unfold; (try dsimp only)) | (k_end; wrow_close) | walk1 | (dsimp only; walk1) | (leave1; walk_say "STEP leave1"; try dsimp only) | fail "no step")
  all_goals exact hret _ _ _ _ _ (by assumption) (Mine.news_drop (by assumption) (by (refine List.forall_mem_cons.mpr ⟨by k_mem, ?_⟩; intro p hp; repeat (first | exact hp | refine List.mem_cons_of_mem _ ?_)))) (by first | assumption | exact ktn_ltOf (by assumption) | exact ktn_ltOf (And.right (by assumption)) | exact ktn_ltOf (And.right (And.right (by assumption))))

theorem chkW {w : World} {mean : ExcName → Option Value} {mg mb : Str → Option Value} {dp un : Nat} {gd : Option (List Code)} {cn : Str} {cs : Scope} {a : Addr} {ccd : Value} {cl : List (Str × Addr)} {outer : List Env} {A₀ : Around} {base h₀ : Heap} {L : Addr} {m : Str → Option Value} {s : Shared} {Q E : Value → Shared → Prop} {news : List (Addr × Obj)} {t : Tok} {ve : Value}
    (B : Below A₀ base outer h₀) (F : Fr h₀ L s.heap m) (X : (Mine.Lt.names.heap_1 w.params).In h₀) (N : News h₀ L s.heap news) (T : Top topProg (Mine.LoOf Mine.Lt.names.view_1) mean mg mb h₀) (hk : cs.kind = .function) (hdp : dp + 40 < recursionLimit) (hun : un + 40 * 10 < cLine)
    
    (hret : ∀ (h' : Heap) (tk : Nat), Fr h₀ L h' m → News h₀ L h' news → Q .none { s with heap := h', toks := tk }) :
    wpAny (model PySem.Challenge.rw_iw0015_01.row.prog w) (Mine.aTop none dp un gd cn cs L a ccd cl outer) (call (.ref 268) [.str (Str.ofString "WORDS") t] [(Str.ofString "encoding", ve)]) Q E s := by
  revert X; k_fill; intro X
  obtain ⟨sh9, sg9, sd9, st9, so9⟩ := s; (try dsimp only at F N); (try dsimp only at hret); (try dsimp only at hno)
  refine wpAny_call ?_
  k_dflt (refine' code_def (binds := [((Str.ofString "name"), .str (Str.ofString "WORDS") t), ((Str.ofString "encoding"), ve)]) ?k1 ?k2 ?k3 ?k4 ?k5 ?kA ?kF ?kK ?k6 ?k7 ?k8 ?k9 ?kB ?_ ?c2 ?c3 ?c4 ?c5; (case kA => exact rfl); (case kF => exact rfl); (case kK => first | assumption | exact rfl); (case k1 => k_asm); (case k2 => k_asm); (case k3 => k_asm); (case k4 => k_asm); (case k5 => k_asm); (case k6 => k_is); (case k7 => k_is); (case k8 => k_room); (case k9 => first | exact BindsTo.of_eq rfl | exact binds_K (by k_in) rfl (by k_is) rfl rfl rfl); (case c5 => decide); (case kB => exact locs rfl); (case c2 => exact rfl); (case c3 => exact rfl); (case c4 => exact rfl); k_whole; intro g' L' h' FG' F' N' B' X' T'; (try dsimp only); (try k_fold))
  simp only [List.reverse_cons, List.reverse_nil, List.nil_append, List.cons_append] at F'
  refine Mine.gen_toks (fun tk0 => ?_)
  repeat' (first | ((with_reducible show UnrEnd _ _ _ _ _ _ _); refine' UnrEnd.intro ?uF ?uN news ?uS ?uO ?_; (case uF => assumption); (case uN => assumption); (case uS => (refine List.forall_mem_cons.mpr ⟨by k_mem, ?_⟩; intro p hp; repeat (first | exact hp | refine List.mem_cons_of_mem _ ?_))); (case uO => (intro p hp; exact Nat.ne_of_lt ((by assumption : ∀ p ∈ news, p.1 < _) p hp)))) | (k_here; (with_reducible show wpAny _ _ (PySem.call (Value.ref 162) [Value.str _ _]) _ _ _); k_dflt (refine' enc ?k1 ?k2 ?k3 ?k4 ?k5 ?k6 ?k7 ?k8 ?vasc ?vsz ?_; (case k1 => k_asm); (case k2 => k_asm); (case k3 => k_asm); (case k4 => k_asm); (case k5 => k_asm); (case k6 => first | assumption | exact rfl); (case k7 => k_room); (case k8 => k_units); (case vasc => first | assumption | decide +kernel); (case vsz => first | assumption | decide +kernel); intro h' tv tk' F' N'; (try simp only [Mine.bytesE, Mine.bytesW, Mine.bytesM, Mine.bytesPW, Mine.bytesPM]); (try dsimp only); (try k_sweep); (try k_fold))) | (k_unfold; (try dsimp only)) | (k_end; wrow_close) | walk1 | (dsimp only; walk1) | (leave1; walk_say "STEP leave1"; try dsimp only) | fail "no step")
  all_goals exact hret _ _ (by assumption) (Mine.news_drop (by assumption) (by intro p hp; repeat (first | exact hp | refine List.mem_cons_of_mem _ ?_)))

theorem splM {w : World} {mean : ExcName → Option Value} {mg mb : Str → Option Value} {dp un : Nat} {gd : Option (List Code)} {cn : Str} {cs : Scope} {a : Addr} {ccd : Value} {cl : List (Str × Addr)} {outer : List Env} {A₀ : Around} {base h₀ : Heap} {L : Addr} {m : Str → Option Value} {s : Shared} {Q E : Value → Shared → Prop} {news : List (Addr × Obj)} {t : Tok}
    (B : Below A₀ base outer h₀) (F : Fr h₀ L s.heap m) (X : (Mine.Lt.names.heap_1 w.params).In h₀) (N : News h₀ L s.heap news) (T : Top topProg (Mine.LoOf Mine.Lt.names.view_1) mean mg mb h₀) (hk : cs.kind = .function) (hdp : dp + 20 < recursionLimit) (hun : un + 20 * 10 < cLine)
    
    (hret : ∀ (D : Addr) (h' : Heap) (tk u1 u2 : Nat), Fr h₀ L h' m → News h₀ L h' ((D, ({ cls := .type "tuple", data := .seq #[.str (Str.ofString "MOMENT") u1, .str (Str.ofString "") u2] } : Obj)) :: news) → (∀ p ∈ news, p.1 < D) → Q (.ref D) { s with heap := h', toks := tk }) :
    wpAny (model PySem.Challenge.rw_iw0015_01.row.prog w) (Mine.aTop none dp un gd cn cs L a ccd cl outer) (call (.ref 179) [.str (Str.ofString "MOMENT") t]) Q E s := by
  revert X; k_fill; intro X
  obtain ⟨sh9, sg9, sd9, st9, so9⟩ := s; (try dsimp only at F N); (try dsimp only at hret); (try dsimp only at hno)
  refine wpAny_call ?_
  k_dflt (refine' code_def (binds := [((Str.ofString "path"), .str (Str.ofString "MOMENT") t)]) ?k1 ?k2 ?k3 ?k4 ?k5 ?kA ?kF ?kK ?k6 ?k7 ?k8 ?k9 ?kB ?_ ?c2 ?c3 ?c4 ?c5; (case kA => exact rfl); (case kF => exact rfl); (case kK => first | assumption | exact rfl); (case k1 => k_asm); (case k2 => k_asm); (case k3 => k_asm); (case k4 => k_asm); (case k5 => k_asm); (case k6 => k_is); (case k7 => k_is); (case k8 => k_room); (case k9 => first | exact BindsTo.of_eq rfl | exact binds_K (by k_in) rfl (by k_is) rfl rfl rfl); (case c5 => decide); (case kB => exact locs rfl); (case c2 => exact rfl); (case c3 => exact rfl); (case c4 => exact rfl); k_whole; intro g' L' h' FG' F' N' B' X' T'; (try dsimp only); (try k_fold))
  simp only [List.reverse_cons, List.reverse_nil, List.nil_append, List.cons_append] at F'
  refine Mine.gen_toks (fun tk0 => ?_)
  repeat' (first | (k_unfold; (try dsimp only)) | (k_end; wrow_close) | walk1 | (dsimp only; walk1) | (leave1; walk_say "STEP leave1"; try dsimp only) | fail "no step")
  all_goals exact hret _ _ _ _ _ (by assumption) (Mine.news_drop (by assumption) (by (refine List.forall_mem_cons.mpr ⟨by k_mem, ?_⟩; intro p hp; repeat (first | exact hp | refine List.mem_cons_of_mem _ ?_)))) (by first | assumption | exact ktn_ltOf (by assumption) | exact ktn_ltOf (And.right (by assumption)) | exact ktn_ltOf (And.right (And.right (by assumption))))

theorem chkM {w : World} {mean : ExcName → Option Value} {mg mb : Str → Option Value} {dp un : Nat} {gd : Option (List Code)} {cn : Str} {cs : Scope} {a : Addr} {ccd : Value} {cl : List (Str × Addr)} {outer : List Env} {A₀ : Around} {base h₀ : Heap} {L : Addr} {m : Str → Option Value} {s : Shared} {Q E : Value → Shared → Prop} {news : List (Addr × Obj)} {t : Tok} {ve : Value}
    (B : Below A₀ base outer h₀) (F : Fr h₀ L s.heap m) (X : (Mine.Lt.names.heap_1 w.params).In h₀) (N : News h₀ L s.heap news) (T : Top topProg (Mine.LoOf Mine.Lt.names.view_1) mean mg mb h₀) (hk : cs.kind = .function) (hdp : dp + 40 < recursionLimit) (hun : un + 40 * 10 < cLine)
    
    (hret : ∀ (h' : Heap) (tk : Nat), Fr h₀ L h' m → News h₀ L h' news → Q .none { s with heap := h', toks := tk }) :
    wpAny (model PySem.Challenge.rw_iw0015_01.row.prog w) (Mine.aTop none dp un gd cn cs L a ccd cl outer) (call (.ref 268) [.str (Str.ofString "MOMENT") t] [(Str.ofString "encoding", ve)]) Q E s := by
  revert X; k_fill; intro X
  obtain ⟨sh9, sg9, sd9, st9, so9⟩ := s; (try dsimp only at F N); (try dsimp only at hret); (try dsimp only at hno)
  refine wpAny_call ?_
  k_dflt (refine' code_def (binds := [((Str.ofString "name"), .str (Str.ofString "MOMENT") t), ((Str.ofString "encoding"), ve)]) ?k1 ?k2 ?k3 ?k4 ?k5 ?kA ?kF ?kK ?k6 ?k7 ?k8 ?k9 ?kB ?_ ?c2 ?c3 ?c4 ?c5; (case kA => exact rfl); (case kF => exact rfl); (case kK => first | assumption | exact rfl); (case k1 => k_asm); (case k2 => k_asm); (case k3 => k_asm); (case k4 => k_asm); (case k5 => k_asm); (case k6 => k_is); (case k7 => k_is); (case k8 => k_room); (case k9 => first | exact BindsTo.of_eq rfl | exact binds_K (by k_in) rfl (by k_is) rfl rfl rfl); (case c5 => decide); (case kB => exact locs rfl); (case c2 => exact rfl); (case c3 => exact rfl); (case c4 => exact rfl); k_whole; intro g' L' h' FG' F' N' B' X' T'; (try dsimp only); (try k_fold))
  simp only [List.reverse_cons, List.reverse_nil, List.nil_append, List.cons_append] at F'
  refine Mine.gen_toks (fun tk0 => ?_)
  repeat' (first | ((with_reducible show UnrEnd _ _ _ _ _ _ _); refine' UnrEnd.intro ?uF ?uN news ?uS ?uO ?_; (case uF => assumption); (case uN => assumption); (case uS => (refine List.forall_mem_cons.mpr ⟨by k_mem, ?_⟩; intro p hp; repeat (first | exact hp | refine List.mem_cons_of_mem _ ?_))); (case uO => (intro p hp; exact Nat.ne_of_lt ((by assumption : ∀ p ∈ news, p.1 < _) p hp)))) | (k_here; (with_reducible show wpAny _ _ (PySem.call (Value.ref 162) [Value.str _ _]) _ _ _); k_dflt (refine' enc ?k1 ?k2 ?k3 ?k4 ?k5 ?k6 ?k7 ?k8 ?vasc ?vsz ?_; (case k1 => k_asm); (case k2 => k_asm); (case k3 => k_asm); (case k4 => k_asm); (case k5 => k_asm); (case k6 => first | assumption | exact rfl); (case k7 => k_room); (case k8 => k_units); (case vasc => first | assumption | decide +kernel); (case vsz => first | assumption | decide +kernel); intro h' tv tk' F' N'; (try simp only [Mine.bytesE, Mine.bytesW, Mine.bytesM, Mine.bytesPW, Mine.bytesPM]); (try dsimp only); (try k_sweep); (try k_fold))) | (k_unfold; (try dsimp only)) | (k_end; wrow_close) | walk1 | (dsimp only; walk1) | (leave1; walk_say "STEP leave1"; try dsimp only) | fail "no step")
  all_goals exact hret _ _ (by assumption) (Mine.news_drop (by assumption) (by intro p hp; repeat (first | exact hp | refine List.mem_cons_of_mem _ ?_)))

theorem confW {w : World} {mean : ExcName → Option Value} {mg mb : Str → Option Value} {dp un : Nat} {gd : Option (List Code)} {cn : Str} {cs : Scope} {a : Addr} {ccd : Value} {cl : List (Str × Addr)} {outer : List Env} {A₀ : Around} {base h₀ : Heap} {L : Addr} {m : Str → Option Value} {s : Shared} {Q E : Value → Shared → Prop} {news : List (Addr × Obj)} {t : Tok} {ve : Value}
    (B : Below A₀ base outer h₀) (F : Fr h₀ L s.heap m) (X : (Mine.Lt.names.heap_1 w.params).In h₀) (N : News h₀ L s.heap news) (T : Top topProg (Mine.LoOf Mine.Lt.names.view_1) mean mg mb h₀) (hk : cs.kind = .function) (hdp : dp + 60 < recursionLimit) (hun : un + 60 * 10 < cLine)
    
    (hret : ∀ (h' : Heap) (tk : Nat), Fr h₀ L h' m → News h₀ L h' news → Q (.bool true) { s with heap := h', toks := tk }) :
    wpAny (model PySem.Challenge.rw_iw0015_01.row.prog w) (Mine.aTop none dp un gd cn cs L a ccd cl outer) (call (.ref 279) [.str (Str.ofString "WORDS") t, ve]) Q E s := by
  revert X; k_fill; intro X
  obtain ⟨sh9, sg9, sd9, st9, so9⟩ := s; (try dsimp only at F N); (try dsimp only at hret); (try dsimp only at hno)
  refine wpAny_call ?_
  k_dflt (refine' code_def (binds := [((Str.ofString "entry_name"), .str (Str.ofString "WORDS") t), ((Str.ofString "encoding"), ve)]) ?k1 ?k2 ?k3 ?k4 ?k5 ?kA ?kF ?kK ?k6 ?k7 ?k8 ?k9 ?kB ?_ ?c2 ?c3 ?c4 ?c5; (case kA => exact rfl); (case kF => exact rfl); (case kK => first | assumption | exact rfl); (case k1 => k_asm); (case k2 => k_asm); (case k3 => k_asm); (case k4 => k_asm); (case k5 => k_asm); (case k6 => k_is); (case k7 => k_is); (case k8 => k_room); (case k9 => first | exact BindsTo.of_eq rfl | exact binds_K (by k_in) rfl (by k_is) rfl rfl rfl); (case c5 => decide); (case kB => exact locs rfl); (case c2 => exact rfl); (case c3 => exact rfl); (case c4 => exact rfl); k_whole; intro g' L' h' FG' F' N' B' X' T'; (try dsimp only); (try k_fold))
  simp only [List.reverse_cons, List.reverse_nil, List.nil_append, List.cons_append] at F'
  refine Mine.gen_toks (fun tk0 => ?_)
  repeat' (first | ((with_reducible show wpAny _ _ (pyIter (Value.ref _)) (fun it s₂ => LoopAtV _ _ _ _ _ _ _ _ _ it s₂) _ _); refine' iter_listUnr ?lh ?lF ?lN ?lm ?lc ?ld ?_; (case lh => exact rfl); (case lF => k_asm); (case lN => k_asm); (case lm => k_mem); (case lc => exact rfl); (case ld => exact rfl); intro iL lL; (have eL := lL); (try k_lt eL)) | ((with_reducible show UnrEnd _ _ _ _ _ (fun _ _ => _ ∧ _) _); refine' UnrEnd.intro ?uF ?uN _ ?uS (fun p hp => Nat.ne_of_lt (lL p hp)) ⟨?um, ?_⟩; (case uF => assumption); (case uN => assumption); (case uS => (refine List.forall_mem_cons.mpr ⟨by k_mem, ?_⟩; intro p hp; repeat (first | exact hp | refine List.mem_cons_of_mem _ ?_))); (case um => k_mem)) | (k_here; (with_reducible show wpAny _ _ (PySem.call (Value.ref 179) [Value.str _ _]) _ _ _); k_dflt (refine' splW ?k1 ?k2 ?k3 ?k4 ?k5 ?k6 ?k7 ?k8 ?_; (case k1 => k_asm); (case k2 => k_asm); (case k3 => k_asm); (case k4 => k_asm); (case k5 => k_asm); (case k6 => first | assumption | exact rfl); (case k7 => k_room); (case k8 => k_units); intro d' h' tk' q1 q2 F' N' l1; (have e1 := l1); (try k_lt e1); (try dsimp only); (try k_sweep); (try k_fold))) | (k_here; (with_reducible show wpAny _ _ (PySem.call (Value.ref 268) [Value.str _ _] _) _ _ _); k_dflt (refine' chkW ?k1 ?k2 ?k3 ?k4 ?k5 ?k6 ?k7 ?k8 ?_; (case k1 => k_asm); (case k2 => k_asm); (case k3 => k_asm); (case k4 => k_asm); (case k5 => k_asm); (case k6 => first | assumption | exact rfl); (case k7 => k_room); (case k8 => k_units); intro h' tk' F' N'; (try dsimp only); (try k_sweep); (try k_fold))) | (k_here; (with_reducible show wpAny _ _ (PySem.call (Value.ref 268) [Value.str _ _] _) _ _ _); k_dflt (refine' chkE ?k1 ?k2 ?k3 ?k4 ?k5 ?k6 ?k7 ?k8 ?_; (case k1 => k_asm); (case k2 => k_asm); (case k3 => k_asm); (case k4 => k_asm); (case k5 => k_asm); (case k6 => first | assumption | exact rfl); (case k7 => k_room); (case k8 => k_units); intro h' tk' F' N'; (try dsimp only); (try k_sweep); (try k_fold))) | (k_unfold; (try dsimp only)) | (k_end; wrow_close) | walk1 | (dsimp only; walk1) | (leave1; walk_say "STEP leave1"; try dsimp only) | fail "no step")
  all_goals exact hret _ _ (by assumption) (Mine.news_drop (by assumption) (by intro p hp; repeat (first | exact hp | refine List.mem_cons_of_mem _ ?_)))

theorem padW {w : World} {mean : ExcName → Option Value} {mg mb : Str → Option Value} {dp un : Nat} {gd : Option (List Code)} {cn : Str} {cs : Scope} {a : Addr} {ccd : Value} {cl : List (Str × Addr)} {outer : List Env} {A₀ : Around} {base h₀ : Heap} {L : Addr} {m : Str → Option Value} {s : Shared} {Q E : Value → Shared → Prop} {news : List (Addr × Obj)} {t : Tok}
    (B : Below A₀ base outer h₀) (F : Fr h₀ L s.heap m) (X : (Mine.Lt.names.heap_1 w.params).In h₀) (N : News h₀ L s.heap news) (T : Top topProg (Mine.LoOf Mine.Lt.names.view_1) mean mg mb h₀) (hk : cs.kind = .function) (hdp : dp + 60 < recursionLimit) (hun : un + 60 * 10 < cLine)
    
    (hret : ∀ (h' : Heap) (u tk : Nat), Fr h₀ L h' m → News h₀ L h' news → Q (.str (Str.ofString "WORDS      ") u) { s with heap := h', toks := tk }) :
    wpAny (model PySem.Challenge.rw_iw0015_01.row.prog w) (Mine.aTop none dp un gd cn cs L a ccd cl outer) (call (.ref 289) [.str (Str.ofString "WORDS") t]) Q E s := by
  revert X; k_fill; intro X
  obtain ⟨sh9, sg9, sd9, st9, so9⟩ := s; (try dsimp only at F N); (try dsimp only at hret); (try dsimp only at hno)
  refine wpAny_call ?_
  k_dflt (refine' code_def (binds := [((Str.ofString "name"), .str (Str.ofString "WORDS") t)]) ?k1 ?k2 ?k3 ?k4 ?k5 ?kA ?kF ?kK ?k6 ?k7 ?k8 ?k9 ?kB ?_ ?c2 ?c3 ?c4 ?c5; (case kA => exact rfl); (case kF => exact rfl); (case kK => first | assumption | exact rfl); (case k1 => k_asm); (case k2 => k_asm); (case k3 => k_asm); (case k4 => k_asm); (case k5 => k_asm); (case k6 => k_is); (case k7 => k_is); (case k8 => k_room); (case k9 => first | exact BindsTo.of_eq rfl | exact binds_K (by k_in) rfl (by k_is) rfl rfl rfl); (case c5 => decide); (case kB => exact locs rfl); (case c2 => exact rfl); (case c3 => exact rfl); (case c4 => exact rfl); k_whole; intro g' L' h' FG' F' N' B' X' T'; (try dsimp only); (try k_fold))
  simp only [List.reverse_cons, List.reverse_nil, List.nil_append, List.cons_append] at F'
  refine Mine.gen_toks (fun tk0 => ?_)
  repeat' (first | (k_here; (with_reducible show wpAny _ _ (PySem.call (Value.ref 179) [Value.str _ _]) _ _ _); k_dflt (refine' splW ?k1 ?k2 ?k3 ?k4 ?k5 ?k6 ?k7 ?k8 ?_; (case k1 => k_asm); (case k2 => k_asm); (case k3 => k_asm); (case k4 => k_asm); (case k5 => k_asm); (case k6 => first | assumption | exact rfl); (case k7 => k_room); (case k8 => k_units); intro d' h' tk' q1 q2 F' N' l1; (have e1 := l1); (try k_lt e1); (try dsimp only); (try k_sweep); (try k_fold))) | (k_unfold; (try dsimp only)) | (k_end; wrow_close) | walk1 | (dsimp only; walk1) | (leave1; walk_say "STEP leave1"; try dsimp only) | fail "no step")
  all_goals exact hret _ _ _ (by assumption) (Mine.news_drop (by assumption) (by intro p hp; repeat (first | exact hp | refine List.mem_cons_of_mem _ ?_)))

theorem confM {w : World} {mean : ExcName → Option Value} {mg mb : Str → Option Value} {dp un : Nat} {gd : Option (List Code)} {cn : Str} {cs : Scope} {a : Addr} {ccd : Value} {cl : List (Str × Addr)} {outer : List Env} {A₀ : Around} {base h₀ : Heap} {L : Addr} {m : Str → Option Value} {s : Shared} {Q E : Value → Shared → Prop} {news : List (Addr × Obj)} {t : Tok} {ve : Value}
    (B : Below A₀ base outer h₀) (F : Fr h₀ L s.heap m) (X : (Mine.Lt.names.heap_1 w.params).In h₀) (N : News h₀ L s.heap news) (T : Top topProg (Mine.LoOf Mine.Lt.names.view_1) mean mg mb h₀) (hk : cs.kind = .function) (hdp : dp + 60 < recursionLimit) (hun : un + 60 * 10 < cLine)
    
    (hret : ∀ (h' : Heap) (tk : Nat), Fr h₀ L h' m → News h₀ L h' news → Q (.bool true) { s with heap := h', toks := tk }) :
    wpAny (model PySem.Challenge.rw_iw0015_01.row.prog w) (Mine.aTop none dp un gd cn cs L a ccd cl outer) (call (.ref 279) [.str (Str.ofString "MOMENT") t, ve]) Q E s := by
  revert X; k_fill; intro X
  obtain ⟨sh9, sg9, sd9, st9, so9⟩ := s; (try dsimp only at F N); (try dsimp only at hret); (try dsimp only at hno)
  refine wpAny_call ?_
  k_dflt (refine' code_def (binds := [((Str.ofString "entry_name"), .str (Str.ofString "MOMENT") t), ((Str.ofString "encoding"), ve)]) ?k1 ?k2 ?k3 ?k4 ?k5 ?kA ?kF ?kK ?k6 ?k7 ?k8 ?k9 ?kB ?_ ?c2 ?c3 ?c4 ?c5; (case kA => exact rfl); (case kF => exact rfl); (case kK => first | assumption | exact rfl); (case k1 => k_asm); (case k2 => k_asm); (case k3 => k_asm); (case k4 => k_asm); (case k5 => k_asm); (case k6 => k_is); (case k7 => k_is); (case k8 => k_room); (case k9 => first | exact BindsTo.of_eq rfl | exact binds_K (by k_in) rfl (by k_is) rfl rfl rfl); (case c5 => decide); (case kB => exact locs rfl); (case c2 => exact rfl); (case c3 => exact rfl); (case c4 => exact rfl); k_whole; intro g' L' h' FG' F' N' B' X' T'; (try dsimp only); (try k_fold))
  simp only [List.reverse_cons, List.reverse_nil, List.nil_append, List.cons_append] at F'
  refine Mine.gen_toks (fun tk0 => ?_)
  repeat' (first | ((with_reducible show wpAny _ _ (pyIter (Value.ref _)) (fun it s₂ => LoopAtV _ _ _ _ _ _ _ _ _ it s₂) _ _); refine' iter_listUnr ?lh ?lF ?lN ?lm ?lc ?ld ?_; (case lh => exact rfl); (case lF => k_asm); (case lN => k_asm); (case lm => k_mem); (case lc => exact rfl); (case ld => exact rfl); intro iL lL; (have eL := lL); (try k_lt eL)) | ((with_reducible show UnrEnd _ _ _ _ _ (fun _ _ => _ ∧ _) _); refine' UnrEnd.intro ?uF ?uN _ ?uS (fun p hp => Nat.ne_of_lt (lL p hp)) ⟨?um, ?_⟩; (case uF => assumption); (case uN => assumption); (case uS => (refine List.forall_mem_cons.mpr ⟨by k_mem, ?_⟩; intro p hp; repeat (first | exact hp | refine List.mem_cons_of_mem _ ?_))); (case um => k_mem)) | (k_here; (with_reducible show wpAny _ _ (PySem.call (Value.ref 179) [Value.str _ _]) _ _ _); k_dflt (refine' splM ?k1 ?k2 ?k3 ?k4 ?k5 ?k6 ?k7 ?k8 ?_; (case k1 => k_asm); (case k2 => k_asm); (case k3 => k_asm); (case k4 => k_asm); (case k5 => k_asm); (case k6 => first | assumption | exact rfl); (case k7 => k_room); (case k8 => k_units); intro d' h' tk' q1 q2 F' N' l1; (have e1 := l1); (try k_lt e1); (try dsimp only); (try k_sweep); (try k_fold))) | (k_here; (with_reducible show wpAny _ _ (PySem.call (Value.ref 268) [Value.str _ _] _) _ _ _); k_dflt (refine' chkM ?k1 ?k2 ?k3 ?k4 ?k5 ?k6 ?k7 ?k8 ?_; (case k1 => k_asm); (case k2 => k_asm); (case k3 => k_asm); (case k4 => k_asm); (case k5 => k_asm); (case k6 => first | assumption | exact rfl); (case k7 => k_room); (case k8 => k_units); intro h' tk' F' N'; (try dsimp only); (try k_sweep); (try k_fold))) | (k_here; (with_reducible show wpAny _ _ (PySem.call (Value.ref 268) [Value.str _ _] _) _ _ _); k_dflt (refine' chkE ?k1 ?k2 ?k3 ?k4 ?k5 ?k6 ?k7 ?k8 ?_; (case k1 => k_asm); (case k2 => k_asm); (case k3 => k_asm); (case k4 => k_asm); (case k5 => k_asm); (case k6 => first | assumption | exact rfl); (case k7 => k_room); (case k8 => k_units); intro h' tk' F' N'; (try dsimp only); (try k_sweep); (try k_fold))) | (k_unfold; (try dsimp only)) | (k_end; wrow_close) | walk1 | (dsimp only; walk1) | (leave1; walk_say "STEP leave1"; try dsimp only) | fail "no step")
  all_goals exact hret _ _ (by assumption) (Mine.news_drop (by assumption) (by intro p hp; repeat (first | exact hp | refine List.mem_cons_of_mem _ ?_)))

theorem padM {w : World} {mean : ExcName → Option Value} {mg mb : Str → Option Value} {dp un : Nat} {gd : Option (List Code)} {cn : Str} {cs : Scope} {a : Addr} {ccd : Value} {cl : List (Str × Addr)} {outer : List Env} {A₀ : Around} {base h₀ : Heap} {L : Addr} {m : Str → Option Value} {s : Shared} {Q E : Value → Shared → Prop} {news : List (Addr × Obj)} {t : Tok}
    (B : Below A₀ base outer h₀) (F : Fr h₀ L s.heap m) (X : (Mine.Lt.names.heap_1 w.params).In h₀) (N : News h₀ L s.heap news) (T : Top topProg (Mine.LoOf Mine.Lt.names.view_1) mean mg mb h₀) (hk : cs.kind = .function) (hdp : dp + 60 < recursionLimit) (hun : un + 60 * 10 < cLine)
    
    (hret : ∀ (h' : Heap) (u tk : Nat), Fr h₀ L h' m → News h₀ L h' news → Q (.str (Str.ofString "MOMENT     ") u) { s with heap := h', toks := tk }) :
    wpAny (model PySem.Challenge.rw_iw0015_01.row.prog w) (Mine.aTop none dp un gd cn cs L a ccd cl outer) (call (.ref 289) [.str (Str.ofString "MOMENT") t]) Q E s := by
  revert X; k_fill; intro X
  obtain ⟨sh9, sg9, sd9, st9, so9⟩ := s; (try dsimp only at F N); (try dsimp only at hret); (try dsimp only at hno)
  refine wpAny_call ?_
  k_dflt (refine' code_def (binds := [((Str.ofString "name"), .str (Str.ofString "MOMENT") t)]) ?k1 ?k2 ?k3 ?k4 ?k5 ?kA ?kF ?kK ?k6 ?k7 ?k8 ?k9 ?kB ?_ ?c2 ?c3 ?c4 ?c5; (case kA => exact rfl); (case kF => exact rfl); (case kK => first | assumption | exact rfl); (case k1 => k_asm); (case k2 => k_asm); (case k3 => k_asm); (case k4 => k_asm); (case k5 => k_asm); (case k6 => k_is); (case k7 => k_is); (case k8 => k_room); (case k9 => first | exact BindsTo.of_eq rfl | exact binds_K (by k_in) rfl (by k_is) rfl rfl rfl); (case c5 => decide); (case kB => exact locs rfl); (case c2 => exact rfl); (case c3 => exact rfl); (case c4 => exact rfl); k_whole; intro g' L' h' FG' F' N' B' X' T'; (try dsimp only); (try k_fold))
  simp only [List.reverse_cons, List.reverse_nil, List.nil_append, List.cons_append] at F'
  refine Mine.gen_toks (fun tk0 => ?_)
  repeat' (first | (k_here; (with_reducible show wpAny _ _ (PySem.call (Value.ref 179) [Value.str _ _]) _ _ _); k_dflt (refine' splM ?k1 ?k2 ?k3 ?k4 ?k5 ?k6 ?k7 ?k8 ?_; (case k1 => k_asm); (case k2 => k_asm); (case k3 => k_asm); (case k4 => k_asm); (case k5 => k_asm); (case k6 => first | assumption | exact rfl); (case k7 => k_room); (case k8 => k_units); intro d' h' tk' q1 q2 F' N' l1; (have e1 := l1); (try k_lt e1); (try dsimp only); (try k_sweep); (try k_fold))) | (k_unfold; (try dsimp only)) | (k_end; wrow_close) | walk1 | (dsimp only; walk1) | (leave1; walk_say "STEP leave1"; try dsimp only) | fail "no step")
  all_goals exact hret _ _ _ (by assumption) (Mine.news_drop (by assumption) (by intro p hp; repeat (first | exact hp | refine List.mem_cons_of_mem _ ?_)))

theorem setnW {w : World} {mean : ExcName → Option Value} {mg mb : Str → Option Value} {dp un : Nat} {gd : Option (List Code)} {cn : Str} {cs : Scope} {a : Addr} {ccd : Value} {cl : List (Str × Addr)} {outer : List Env} {A₀ : Around} {base h₀ : Heap} {L : Addr} {m : Str → Option Value} {s : Shared} {Q E : Value → Shared → Prop} {news : List (Addr × Obj)} {x dx : Addr} {j1 j2 j3 u t : Tok}
    (B : Below A₀ base outer h₀) (F : Fr h₀ L s.heap m) (X : (Mine.Lt.names.heap_1 w.params).In h₀) (N : News h₀ L s.heap ((x, instObj 305 dx) :: (dx, dictOf [Mine.ent w "name" j1 (.none), Mine.ent w "encoding" j2 (.str (Str.ofString "latin-1") u), Mine.ent w "initialized" j3 (.bool false)] 3) :: news)) (T : Top topProg (Mine.LoOf Mine.Lt.names.view_1) mean mg mb h₀) (hk : cs.kind = .function) (hdp : dp + 80 < recursionLimit) (hun : un + 80 * 10 < cLine)
    (lt1 : ∀ p ∈ news, p.1 < dx) (lt2 : dx < x)
    (hret : ∀ (b : Addr) (h' : Heap) (tk j1 j2 j3 : Nat), Fr h₀ L h' m → News h₀ L h' ((b, Mine.baObj (byteArr [87, 79, 82, 68, 83, 32, 32, 32, 32, 32, 32])) :: (x, instObj 305 dx) :: (dx, dictOf [Mine.ent w "name" j1 (.ref b), Mine.ent w "encoding" j2 (.str (Str.ofString "latin-1") u), Mine.ent w "initialized" j3 (.bool true)] 3) :: news) → x < b → Q .none { s with heap := h', toks := tk }) :
    Mine.wpC (model PySem.Challenge.rw_iw0015_01.row.prog w) (Mine.aTop none dp un gd cn cs L a ccd cl outer) (call (.ref 254) [.ref x, .str (Str.ofString "WORDS") t]) Q E s := by
  have e1 := lt1; have e2 := lt2; (try k_lt e1); (try k_lt2 e2)
  revert X; k_fill; intro X
  obtain ⟨sh9, sg9, sd9, st9, so9⟩ := s; (try dsimp only at F N); (try dsimp only at hret); (try dsimp only at hno)
  refine Mine.wpC_call ?_
  k_dflt (refine' Mine.code_defW (binds := [((Str.ofString "self"), .ref x), ((Str.ofString "name"), .str (Str.ofString "WORDS") t)]) ?k1 ?k2 ?k3 ?k4 ?k5 ?kA ?kF ?kK ?k6 ?k7 ?k8 ?k9 ?kB ?_ ?c2 ?c3 ?c4 ?c5; (case kA => exact rfl); (case kF => exact rfl); (case kK => first | assumption | exact rfl); (case k1 => k_asm); (case k2 => k_asm); (case k3 => k_asm); (case k4 => k_asm); (case k5 => k_asm); (case k6 => k_is); (case k7 => k_is); (case k8 => k_room); (case k9 => first | exact BindsTo.of_eq rfl | exact binds_K (by k_in) rfl (by k_is) rfl rfl rfl); (case c5 => decide); (case kB => exact locs rfl); (case c2 => exact rfl); (case c3 => exact rfl); (case c4 => exact rfl); k_whole; intro g' L' h' FG' F' N' B' X' T'; (try dsimp only); (try k_fold))
  simp only [List.reverse_cons, List.reverse_nil, List.nil_append, List.cons_append] at F'
  refine Mine.gen_toksC (fun tk0 => ?_)
  repeat' (first | (k_end; dsimp only; (with_reducible show Mine.wpC _ _ _ _ _ _)) | ((with_reducible show Mine.wpC _ _ (PySem.execs (PySem.Stmt.If _ _ _ _ :: _) _) _ _ _); (first | with_reducible refine Mine.gen_toksC (fun tk' => ?_) | skip); with_reducible refine Mine.wpC_execs_any ?_) | ((with_reducible show Mine.wpC _ _ (PySem.execs (PySem.Stmt.Assign [PySem.Expr.Attribute _ _ _] _ _ :: _) _) _ _ _); (first | with_reducible refine Mine.gen_toksC (fun tk' => ?_) | skip); with_reducible refine Mine.wpC_execs_any ?_) | ((with_reducible show Mine.wpC _ _ (PySem.execs (PySem.Stmt.Assign [PySem.Expr.Name _ _] (PySem.Expr.Call (PySem.Expr.Name _ _) _ _ _) _ :: _) _) _ _ _); refine Mine.wpC_execs_cons (Mine.wpC_Assign_Name (Mine.wpC_type1 (T := "bytearray") rfl ?_))) | ((with_reducible show (Value.type _ = Value.type _ ∧ _)); refine ⟨rfl, ?_⟩) | ((with_reducible show Mine.wpC _ _ (PySem.call (Value.type "bytearray") _) _ _ _); k_dflt (refine' Mine.call_bytearray_K ?bF ?bN ?bz ?_; (case bF => k_asm); (case bN => k_asm); (case bz => decide +kernel); intro x' h' F' N' l1; (have e1 := l1); (try k_lt e1); (try dsimp only))) | ((with_reducible show Mine.wpC _ _ (PySem.execs [] _) _ _ _); with_reducible refine Mine.wpC_execs_nil ?_) | ((with_reducible show wpAny _ _ (subscriptTail _ _ (Value.ref _) (Value.int 0 _)) _ _ _); k_here; k_dflt (refine' Mine.sub_ba (n := 87) (x := 87) ?bN ?bm ?bf ?bx ?bn ?_; (case bN => k_asm); (case bm => k_mem); (case bf => decide +kernel); (case bx => first | decide +kernel | kernel_rfl | exact rfl); (case bn => exact rfl); (try dsimp only))) | ((with_reducible show wpAny _ _ (PySem.call (Prod.fst _) _ _) _ _ _); dsimp only [List.nil_append, List.cons_append]) | (k_here; (with_reducible show wpAny _ _ (PySem.call (Value.ref 289) [Value.str _ _]) _ _ _); k_dflt (refine' padW ?k1 ?k2 ?k3 ?k4 ?k5 ?k6 ?k7 ?k8 ?_; (case k1 => k_asm); (case k2 => k_asm); (case k3 => k_asm); (case k4 => k_asm); (case k5 => k_asm); (case k6 => first | assumption | exact rfl); (case k7 => k_room); (case k8 => k_units); intro h' tv tk' F' N'; (try dsimp only); (try k_sweep); (try k_fold))) | (k_here; (with_reducible show wpAny _ _ (PySem.call (Value.ref 279) [Value.str _ _, _]) _ _ _); k_dflt (refine' confW ?k1 ?k2 ?k3 ?k4 ?k5 ?k6 ?k7 ?k8 ?_; (case k1 => k_asm); (case k2 => k_asm); (case k3 => k_asm); (case k4 => k_asm); (case k5 => k_asm); (case k6 => first | assumption | exact rfl); (case k7 => k_room); (case k8 => k_units); intro h' tk' F' N'; (try dsimp only); (try k_sweep); (try k_fold))) | (k_here; (with_reducible show wpAny _ _ (PySem.call (Value.ref 162) [Value.str _ _]) _ _ _); k_dflt (refine' enc ?k1 ?k2 ?k3 ?k4 ?k5 ?k6 ?k7 ?k8 ?vasc ?vsz ?_; (case k1 => k_asm); (case k2 => k_asm); (case k3 => k_asm); (case k4 => k_asm); (case k5 => k_asm); (case k6 => first | assumption | exact rfl); (case k7 => k_room); (case k8 => k_units); (case vasc => first | assumption | decide +kernel); (case vsz => first | assumption | decide +kernel); intro h' tv tk' F' N'; (try simp only [Mine.bytesPW]); (try dsimp only); (try k_sweep); (try k_fold))) | (k_unfold; (try dsimp only)) | (k_end; wrow_close) | walk1 | (dsimp only; walk1) | (leave1; walk_say "STEP leave1"; try dsimp only) | fail "no step")
  all_goals (refine' hret x' _ _ _ _ _ ?sfW ?snW ?slW; (case sfW => assumption); (case snW => (refine' Mine.news_drop ?nN ?nS; (case nN => assumption); (case nS => (refine List.forall_mem_cons.mpr ⟨by k_dflt k_mem, List.forall_mem_cons.mpr ⟨by k_dflt k_mem, List.forall_mem_cons.mpr ⟨by k_dflt k_mem, ?_⟩⟩⟩; intro p hp; repeat (first | exact hp | refine List.mem_cons_of_mem _ ?_))))); (case slW => exact l1 _ (List.Mem.head _)))

theorem setnM {w : World} {mean : ExcName → Option Value} {mg mb : Str → Option Value} {dp un : Nat} {gd : Option (List Code)} {cn : Str} {cs : Scope} {a : Addr} {ccd : Value} {cl : List (Str × Addr)} {outer : List Env} {A₀ : Around} {base h₀ : Heap} {L : Addr} {m : Str → Option Value} {s : Shared} {Q E : Value → Shared → Prop} {news : List (Addr × Obj)} {x dx : Addr} {j1 j2 j3 u t : Tok}
    (B : Below A₀ base outer h₀) (F : Fr h₀ L s.heap m) (X : (Mine.Lt.names.heap_1 w.params).In h₀) (N : News h₀ L s.heap ((x, instObj 305 dx) :: (dx, dictOf [Mine.ent w "name" j1 (.none), Mine.ent w "encoding" j2 (.str (Str.ofString "latin-1") u), Mine.ent w "initialized" j3 (.bool false)] 3) :: news)) (T : Top topProg (Mine.LoOf Mine.Lt.names.view_1) mean mg mb h₀) (hk : cs.kind = .function) (hdp : dp + 80 < recursionLimit) (hun : un + 80 * 10 < cLine)
    (lt1 : ∀ p ∈ news, p.1 < dx) (lt2 : dx < x)
    (hret : ∀ (b : Addr) (h' : Heap) (tk j1 j2 j3 : Nat), Fr h₀ L h' m → News h₀ L h' ((b, Mine.baObj (byteArr [77, 79, 77, 69, 78, 84, 32, 32, 32, 32, 32])) :: (x, instObj 305 dx) :: (dx, dictOf [Mine.ent w "name" j1 (.ref b), Mine.ent w "encoding" j2 (.str (Str.ofString "latin-1") u), Mine.ent w "initialized" j3 (.bool true)] 3) :: news) → x < b → Q .none { s with heap := h', toks := tk }) :
    Mine.wpC (model PySem.Challenge.rw_iw0015_01.row.prog w) (Mine.aTop none dp un gd cn cs L a ccd cl outer) (call (.ref 254) [.ref x, .str (Str.ofString "MOMENT") t]) Q E s := by
  have e1 := lt1; have e2 := lt2; (try k_lt e1); (try k_lt2 e2)
  revert X; k_fill; intro X
  obtain ⟨sh9, sg9, sd9, st9, so9⟩ := s; (try dsimp only at F N); (try dsimp only at hret); (try dsimp only at hno)
  refine Mine.wpC_call ?_
  k_dflt (refine' Mine.code_defW (binds := [((Str.ofString "self"), .ref x), ((Str.ofString "name"), .str (Str.ofString "MOMENT") t)]) ?k1 ?k2 ?k3 ?k4 ?k5 ?kA ?kF ?kK ?k6 ?k7 ?k8 ?k9 ?kB ?_ ?c2 ?c3 ?c4 ?c5; (case kA => exact rfl); (case kF => exact rfl); (case kK => first | assumption | exact rfl); (case k1 => k_asm); (case k2 => k_asm); (case k3 => k_asm); (case k4 => k_asm); (case k5 => k_asm); (case k6 => k_is); (case k7 => k_is); (case k8 => k_room); (case k9 => first | exact BindsTo.of_eq rfl | exact binds_K (by k_in) rfl (by k_is) rfl rfl rfl); (case c5 => decide); (case kB => exact locs rfl); (case c2 => exact rfl); (case c3 => exact rfl); (case c4 => exact rfl); k_whole; intro g' L' h' FG' F' N' B' X' T'; (try dsimp only); (try k_fold))
  simp only [List.reverse_cons, List.reverse_nil, List.nil_append, List.cons_append] at F'
  refine Mine.gen_toksC (fun tk0 => ?_)
  repeat' (first | (k_end; dsimp only; (with_reducible show Mine.wpC _ _ _ _ _ _)) | ((with_reducible show Mine.wpC _ _ (PySem.execs (PySem.Stmt.If _ _ _ _ :: _) _) _ _ _); (first | with_reducible refine Mine.gen_toksC (fun tk' => ?_) | skip); with_reducible refine Mine.wpC_execs_any ?_) | ((with_reducible show Mine.wpC _ _ (PySem.execs (PySem.Stmt.Assign [PySem.Expr.Attribute _ _ _] _ _ :: _) _) _ _ _); (first | with_reducible refine Mine.gen_toksC (fun tk' => ?_) | skip); with_reducible refine Mine.wpC_execs_any ?_) | ((with_reducible show Mine.wpC _ _ (PySem.execs (PySem.Stmt.Assign [PySem.Expr.Name _ _] (PySem.Expr.Call (PySem.Expr.Name _ _) _ _ _) _ :: _) _) _ _ _); refine Mine.wpC_execs_cons (Mine.wpC_Assign_Name (Mine.wpC_type1 (T := "bytearray") rfl ?_))) | ((with_reducible show (Value.type _ = Value.type _ ∧ _)); refine ⟨rfl, ?_⟩) | ((with_reducible show Mine.wpC _ _ (PySem.call (Value.type "bytearray") _) _ _ _); k_dflt (refine' Mine.call_bytearray_K ?bF ?bN ?bz ?_; (case bF => k_asm); (case bN => k_asm); (case bz => decide +kernel); intro x' h' F' N' l1; (have e1 := l1); (try k_lt e1); (try dsimp only))) | ((with_reducible show Mine.wpC _ _ (PySem.execs [] _) _ _ _); with_reducible refine Mine.wpC_execs_nil ?_) | ((with_reducible show wpAny _ _ (subscriptTail _ _ (Value.ref _) (Value.int 0 _)) _ _ _); k_here; k_dflt (refine' Mine.sub_ba (n := 77) (x := 77) ?bN ?bm ?bf ?bx ?bn ?_; (case bN => k_asm); (case bm => k_mem); (case bf => decide +kernel); (case bx => first | decide +kernel | kernel_rfl | exact rfl); (case bn => exact rfl); (try dsimp only))) | ((with_reducible show wpAny _ _ (PySem.call (Prod.fst _) _ _) _ _ _); dsimp only [List.nil_append, List.cons_append]) | (k_here; (with_reducible show wpAny _ _ (PySem.call (Value.ref 289) [Value.str _ _]) _ _ _); k_dflt (refine' padM ?k1 ?k2 ?k3 ?k4 ?k5 ?k6 ?k7 ?k8 ?_; (case k1 => k_asm); (case k2 => k_asm); (case k3 => k_asm); (case k4 => k_asm); (case k5 => k_asm); (case k6 => first | assumption | exact rfl); (case k7 => k_room); (case k8 => k_units); intro h' tv tk' F' N'; (try dsimp only); (try k_sweep); (try k_fold))) | (k_here; (with_reducible show wpAny _ _ (PySem.call (Value.ref 279) [Value.str _ _, _]) _ _ _); k_dflt (refine' confM ?k1 ?k2 ?k3 ?k4 ?k5 ?k6 ?k7 ?k8 ?_; (case k1 => k_asm); (case k2 => k_asm); (case k3 => k_asm); (case k4 => k_asm); (case k5 => k_asm); (case k6 => first | assumption | exact rfl); (case k7 => k_room); (case k8 => k_units); intro h' tk' F' N'; (try dsimp only); (try k_sweep); (try k_fold))) | (k_here; (with_reducible show wpAny _ _ (PySem.call (Value.ref 162) [Value.str _ _]) _ _ _); k_dflt (refine' enc ?k1 ?k2 ?k3 ?k4 ?k5 ?k6 ?k7 ?k8 ?vasc ?vsz ?_; (case k1 => k_asm); (case k2 => k_asm); (case k3 => k_asm); (case k4 => k_asm); (case k5 => k_asm); (case k6 => first | assumption | exact rfl); (case k7 => k_room); (case k8 => k_units); (case vasc => first | assumption | decide +kernel); (case vsz => first | assumption | decide +kernel); intro h' tv tk' F' N'; (try simp only [Mine.bytesPM]); (try dsimp only); (try k_sweep); (try k_fold))) | (k_unfold; (try dsimp only)) | (k_end; wrow_close) | walk1 | (dsimp only; walk1) | (leave1; walk_say "STEP leave1"; try dsimp only) | fail "no step")
  all_goals (refine' hret x' _ _ _ _ _ ?sfM ?snM ?slM; (case sfM => assumption); (case snM => (refine' Mine.news_drop ?nN ?nS; (case nN => assumption); (case nS => (refine List.forall_mem_cons.mpr ⟨by k_dflt k_mem, List.forall_mem_cons.mpr ⟨by k_dflt k_mem, List.forall_mem_cons.mpr ⟨by k_dflt k_mem, ?_⟩⟩⟩; intro p hp; repeat (first | exact hp | refine List.mem_cons_of_mem _ ?_))))); (case slM => exact l1 _ (List.Mem.head _)))

theorem lentry {w : World} {mean : ExcName → Option Value} {mg mb : Str → Option Value} {dp un : Nat} {gd : Option (List Code)} {cn : Str} {cs : Scope} {a : Addr} {ccd : Value} {cl : List (Str × Addr)} {outer : List Env} {A₀ : Around} {base h₀ : Heap} {L : Addr} {m : Str → Option Value} {s : Shared} {Q E : Value → Shared → Prop} {news : List (Addr × Obj)} {z : Int} {t1 : Tok}
    (B : Below A₀ base outer h₀) (F : Fr h₀ L s.heap m) (X : (Mine.Lt.names.heap_1 w.params).In h₀) (N : News h₀ L s.heap news) (T : Top topProg (Mine.LoOf Mine.Lt.names.view_1) mean mg mb h₀) (hk : cs.kind = .function) (hdp : dp + 100 < recursionLimit) (hun : un + 100 * 10 < cLine) (XB : (Mine.Lt.names.heap_1 w.params).In base) (TB : Top topProg (Mine.LoOf Mine.Lt.names.view_1) mean mg mb base) (D : KtsDicts (outer.filterMap (·.frame)) h₀)
    (z0 : 0 ≤ z) (z1 : z < 65600)
    (hret : ∀ (hZ : Heap) (h' : Heap) (tk : Nat), KtsTurn (outer.filterMap (·.frame)) h₀ hZ → Fr hZ L h' m → News hZ L h' (news) → Below A₀ base outer hZ → (Mine.Lt.names.heap_1 w.params).In hZ → Top topProg (Mine.LoOf Mine.Lt.names.view_1) mean mg mb hZ → KtsDicts (outer.filterMap (·.frame)) hZ → Q (.bool true) { s with heap := h', toks := tk }) :
    Mine.wpC (model PySem.Challenge.rw_iw0015_01.row.prog w) (Mine.aTop none dp un gd cn cs L a ccd cl outer) (call (.ref 728) [.int z t1]) Q E s := by
  revert X; k_fill; intro X
  obtain ⟨sh9, sg9, sd9, st9, so9⟩ := s; (try dsimp only at F N); (try dsimp only at hret); (try dsimp only at hno)
  refine Mine.wpC_call ?_
  k_dflt (refine' Mine.code_defTC (binds := [((Str.ofString "word"), .int z t1)]) ?k1 ?k2 ?k3 ?k4 ?k5 ?XB ?TB ?D ?T0 ?kA ?kF ?cK ?k6 ?k7 ?k8 ?k9 ?kB ?kD ?_ ?c2 ?c3 ?c4; (case kA => exact rfl); (case kF => exact rfl); (case k2 => k_asm); (case k1 => k_asm); (case XB => assumption); (case TB => assumption); (case D => assumption); (case T0 => exact KtsTurn.refl); (case k3 => k_asm); (case k4 => k_asm); (case k5 => k_asm); (case k6 => k_is); (case k7 => k_is); (case k8 => k_room); (case k9 => first | exact BindsTo.of_eq rfl | exact binds_K (by k_in) rfl (by k_is) rfl rfl rfl); (case kB => exact rfl); (case kD => decide +kernel); (case cK => first | assumption | exact rfl); (case c2 => exact rfl); (case c3 => exact rfl); (case c4 => exact rfl); k_whole; intro g' L' h' tk' cells' FG' F' N' Y' l1 B' X' T' D'; (try k_lt l1); (first | k_cells Y' | cases Y'); (try simp only [List.cons_append, List.nil_append] at N'); (try dsimp only); (try k_fold))
  refine Mine.gen_toksC (fun tk0 => ?_)
  repeat' (first | (k_end; dsimp only; (with_reducible show Mine.wpC _ _ _ _ _ _)) | ((with_reducible show Mine.wpC _ _ (PySem.execs (PySem.Stmt.Assign [PySem.Expr.Name (Str.ofString "entry") _] _ _ :: _) _) _ _ _); (fail_if_success (have q := hs_entry)); (with_reducible rename News _ _ _ _ => NS9); obtain ⟨led_entry, NV9, hs_entry⟩ := Mine.sealed NS9; clear NS9; (repeat (have q9 := Mine.sub_cons hs_entry; clear hs_entry; obtain ⟨mm9, hs_entry⟩ := q9)); (try (repeat (with_reducible rename (_ ∈ news) => mo9; have mn9 := hs_entry _ mo9; clear mo9))); (first | replace hsb := fun p hp => hs_entry p (hsb p hp) | have hsb := hs_entry); (try dsimp only)) | ((with_reducible show wpAny _ _ (PySem.execs (PySem.Stmt.Assign [PySem.Expr.Name (Str.ofString "due") _] _ _ :: _) _) _ _ _); (fail_if_success (have q := hs_due)); (with_reducible rename News _ _ _ _ => NS9); obtain ⟨led_due, NV9, hs_due⟩ := Mine.sealed NS9; clear NS9; (repeat (have q9 := Mine.sub_cons hs_due; clear hs_due; obtain ⟨mm9, hs_due⟩ := q9)); (try (repeat (with_reducible rename (_ ∈ led_entry) => mo9; have mn9 := hs_due _ mo9; clear mo9))); (first | replace hsb := fun p hp => hs_due p (hsb p hp) | have hsb := hs_due); (try dsimp only)) | ((with_reducible show wpAny _ _ (PySem.execs (PySem.Stmt.Assign [PySem.Expr.Name (Str.ofString "told") _] _ _ :: _) _) _ _ _); (fail_if_success (have q := hs_told)); (with_reducible rename News _ _ _ _ => NS9); obtain ⟨led_told, NV9, hs_told⟩ := Mine.sealed NS9; clear NS9; (repeat (have q9 := Mine.sub_cons hs_told; clear hs_told; obtain ⟨mm9, hs_told⟩ := q9)); (try (repeat (with_reducible rename (_ ∈ led_entry) => mo9; have mn9 := hs_told _ mo9; clear mo9))); (try (repeat (with_reducible rename (_ ∈ led_due) => mo9; have mn9 := hs_told _ mo9; clear mo9))); (first | replace hsb := fun p hp => hs_told p (hsb p hp) | have hsb := hs_told); (try dsimp only)) | ((have gq := hs_told); (with_reducible show Mine.TupSrc _ _ _ _ _ _ _ _ _ _ _ _ _); (fail_if_success (have q := hs_src)); (with_reducible rename News _ _ _ _ => NS9); obtain ⟨led_src, NV9, hs_src⟩ := Mine.sealed NS9; clear NS9; (repeat (have q9 := Mine.sub_cons hs_src; clear hs_src; obtain ⟨mm9, hs_src⟩ := q9)); (try (repeat (with_reducible rename (_ ∈ led_entry) => mo9; have mn9 := hs_src _ mo9; clear mo9))); (try (repeat (with_reducible rename (_ ∈ led_due) => mo9; have mn9 := hs_src _ mo9; clear mo9))); (try (repeat (with_reducible rename (_ ∈ led_told) => mo9; have mn9 := hs_src _ mo9; clear mo9))); (first | replace hsb := fun p hp => hs_src p (hsb p hp) | have hsb := hs_src); (try dsimp only)) | ((with_reducible show Mine.wpC _ _ (PySem.execs (PySem.Stmt.Assign [PySem.Expr.Name (Str.ofString "short") _] _ _ :: _) _) _ _ _); (fail_if_success (have q := bw0)); (with_reducible rename News _ _ _ _ => NW9); obtain ⟨w0, w1, w2, w3, w4, q0, q1, q2, q3, q4, bw0, bh0, bw1, bh1, bw2, bh2, bw3, bh3, bw4, bh4, NV9⟩ := Mine.words5 NW9; clear NW9; (try dsimp only)) | ((with_reducible show wpAny _ _ (subscriptTail _ _ (Value.ref _) (Value.int _ _)) _ _ _); k_here; k_dflt (refine' Mine.item_lit ?N ?m ?h0 ?hf ?hx ?_; (case N => k_asm); (case m => k_mem); (case h0 => decide); (case hf => decide); (case hx => exact rfl); k_whole)) | ((with_reducible show wpAny _ _ (PySem.compareOp PySem.CmpOp.Eq (Value.ref _) (Value.ref _)) _ _ _); k_here; k_dflt (refine Mine.eq3 (Mine.rd3b (by k_asm) (by k_mem) (Mine.rd6 (by k_asm) (by k_mem)) (Mine.rd6 (by k_asm) (by k_mem)) (Mine.rd6 (by k_asm) (by k_mem))) (Mine.rd3a (by k_asm) (by k_mem) (Mine.rd6 (by k_asm) (by k_mem)) (Mine.rd6 (by k_asm) (by k_mem)) (Mine.rd6 (by k_asm) (by k_mem))) (by ke_room) ?_); (try dsimp only)) | ((with_reducible show wpAny _ _ (PySem.exec (PySem.Stmt.Assign [PySem.Expr.Name _ _] (PySem.Expr.ListComp _ [⟨PySem.Expr.Name _ _, PySem.Expr.Tuple _ _ _, _, _⟩] _ _) _) _) _ _ _); k_here; k_dflt (refine Mine.assign_comp_tuple (by rfl) (by with_unfolding_all rfl) (by rfl) (by decide) (by rfl) (by decide) (by rfl) (by rfl) (by rfl) ?_)) | ((with_reducible show Mine.TupSrc _ _ _ _ _ _ _ _ _ _ _ _ _); k_dflt (refine Mine.TupSrc.ledger (by rfl) (by k_asm) (by k_asm) (by k_mem) (by exact Nat.le_of_ble_eq_true rfl) ?_); intro g'; lcg_lit) | ((with_reducible show LCg.CompRest _ _ _ _ _ _ _ _ _ _ _ _ _ _ _ _ _ _ _); with_unfolding_all first | (refine LCg.CompRest.succ ?_; intro v9 I9 oI9 C9 oC9 D9 m9 h9 k9 E9 hv9 hC9 hx9 F9 N9 off9 ne9; lcg_open hv9; (try dsimp only)) | refine LCg.CompRest.zero ?_) | ((with_reducible show LCg.CompEnd _ _ _ _ _ _ _ _ _ _ _ _ _ _); first | refine LCg.CompEnd.intro (by assumption) (by assumption) _ (fun p hp => hp) off9 (Or.inr ⟨_, by k_dflt k_mem, rfl, _, rfl⟩) ?_ | refine Mine.comp_end1 (by assumption) (by assumption) (by k_ne) (by k_ne) (by k_ne) off9 (Or.inr ⟨_, by k_dflt k_mem, rfl, _, rfl⟩) ?_) | ((with_reducible show wpAny _ _ (PySem.callWith _ (Prod.fst _) _ _ _) _ _ _); dsimp only) | ((with_reducible show wpAny _ _ (PySem.callWith _ (Value.ref _) _ (backTo _ (starEach List.nil _)) List.nil) _ _ _); k_dflt (refine' callWith_K0 ?X ?hk ?_; (case X => k_in); (case hk => k_is)); dsimp only [List.nil_append, List.cons_append]) | ((with_reducible show Mine.wpC _ _ (PySem.execs (PySem.Stmt.Expr (PySem.Expr.Call (PySem.Expr.Attribute _ (Str.ofString "set_str_name") _) _ _ _) _ :: _) _) _ _ _); k_dflt (refine' Mine.wpC_execs_cons (Mine.wpC_Expr_None (Mine.wpC_meth1 (f := .ref 254) (K := Mine.Lt.names.heap_1 w.params) ?he ?hk ?_)); (case he => exact rfl); (case hk => k_is))) | ((with_reducible show (Prod.fst _ = _ ∧ _)); refine ⟨rfl, ?_⟩; dsimp only) | ((with_reducible show Mine.wpC _ _ (PySem.call (Value.ref 254) _ _) _ _ _); k_dflt (refine' setnW ?k1 ?k2 ?k3 ?k4 ?k5 ?k6 ?k7 ?k8 ?vlt1 ?vlt2 ?_; (case k1 => k_asm); (case k2 => k_asm); (case k3 => k_asm); (case k4 => k_asm); (case k5 => k_asm); (case k6 => first | assumption | exact rfl); (case k7 => k_room); (case k8 => k_units); (case vlt1 => assumption); (case vlt2 => assumption); intro b' h' tk' q1 q2 q3 F' N' lb1; (have eb1 := lb1); (try k_lt2 eb1); (try dsimp only); refine ⟨rfl, ?_⟩)) | ((with_reducible show Mine.wpC _ _ (PySem.execs (PySem.Stmt.Assign [PySem.Expr.Name (Str.ofString "entry") _] _ _ :: _) _) _ _ _); refine Mine.wpC_of ?_) | ((with_reducible show wpAny _ _ (PySem.call (Prod.fst _) _ _) _ _ _); dsimp only [List.nil_append, List.cons_append]) | (k_here; (with_reducible show wpAny _ _ (PySem.call (Value.ref 305) List.nil) _ _ _); k_dflt (refine' eight ?k1 ?k2 ?k3 ?k4 ?k5 ?k6 ?k7 ?k8 ?_; (case k1 => k_asm); (case k2 => k_asm); (case k3 => k_asm); (case k4 => k_asm); (case k5 => k_asm); (case k6 => first | assumption | exact rfl); (case k7 => k_room); (case k8 => k_units); intro x' d' h' tk' q1 q2 q3 z1 F' N' l1 l2; (have e1 := l1); (have e2 := l2); (try k_lt e1); (try k_lt2 e2); (try dsimp only); (try k_sweep); (try k_fold))) | (k_here; (with_reducible show wpAny _ _ (PySem.call (Value.ref 595) (_ :: _)) _ _ _); k_dflt (refine' entp ?k1 ?k2 ?k3 ?k4 ?k5 ?k6 ?k7 ?k8 ?k9 ?k10 ?k11 ?vsz ?_; (case k1 => k_asm); (case k2 => k_asm); (case k3 => k_asm); (case k4 => k_asm); (case k5 => k_asm); (case k6 => first | assumption | exact rfl); (case k7 => k_room); (case k8 => k_units); (case k9 => assumption); (case k10 => assumption); (case k11 => assumption); (case vsz => first | assumption | omega); intro gS x' d' s' h' tk' q1 q2 q3 q4 q5 q6 q7 q8 q9 q10 q11 q12 q13 q14 q15 q16 q17 q18 z2 z3 z4 z5 z6 z7 z8 z9 z10 z11 z12 TS FS NS BS XS PS DS l1 l2; (try (replace TS := KtsTurn.trans (by assumption) TS)); (have e1 := l1); (have e2 := l2); (try k_lt e1); (try k_lt2 e2); (try dsimp only); (try k_sweep); (try k_fold))) | (k_here; (with_reducible show wpAny _ _ (PySem.call (Value.ref 702) [Value.int _ _]) _ _ _); k_dflt (refine' ldate ?k1 ?k2 ?k3 ?k4 ?k5 ?k6 ?k7 ?k8 ?vz0 ?vz1 ?_; (case k1 => k_asm); (case k2 => k_asm); (case k3 => k_asm); (case k4 => k_asm); (case k5 => k_asm); (case k6 => first | assumption | exact rfl); (case k7 => k_room); (case k8 => k_units); (case vz0 => first | assumption | omega | exact Mine.fm_lo _ | exact Mine.fm_hi _); (case vz1 => first | assumption | omega | exact Mine.fm_lo _ | exact Mine.fm_hi _); intro l' h' u1' u2' u3' tk' F' N' l1; (have e1 := l1); (try k_lt e1); (try dsimp only); (try k_sweep); (try k_fold))) | (k_here; (with_reducible show wpAny _ _ (PySem.call (Value.ref 709) [Value.int _ _]) _ _ _); k_dflt (refine' ltim ?k1 ?k2 ?k3 ?k4 ?k5 ?k6 ?k7 ?k8 ?vz0 ?vz1 ?_; (case k1 => k_asm); (case k2 => k_asm); (case k3 => k_asm); (case k4 => k_asm); (case k5 => k_asm); (case k6 => first | assumption | exact rfl); (case k7 => k_room); (case k8 => k_units); (case vz0 => first | assumption | omega | exact Mine.fm_lo _ | exact Mine.fm_hi _); (case vz1 => first | assumption | omega | exact Mine.fm_lo _ | exact Mine.fm_hi _); intro l' h' u1' u2' u3' tk' F' N' l1; (have e1 := l1); (try k_lt e1); (try dsimp only); (try k_sweep); (try k_fold))) | (k_here; (with_reducible show wpAny _ _ (PySem.call (Value.ref 350) [Value.ref _]) _ _ _); k_dflt (refine' g_ctime ?k1 ?k2 ?k3 ?k4 ?k5 ?k6 ?k7 ?k8 ?k9 ?k10 ?k11 ?vm1 ?vm2 ?_; (case k1 => k_asm); (case k2 => k_asm); (case k3 => k_asm); (case k4 => k_asm); (case k5 => k_asm); (case k6 => first | assumption | exact rfl); (case k7 => k_room); (case k8 => k_units); (case k9 => assumption); (case k10 => assumption); (case k11 => assumption); (case vm1 => k_mem); (case vm2 => k_mem); intro gS x' d' h' tk' q1 q2 q3 q4 q5 q6 z1 z2 z3 z4 z5 z6 TS FS NS BS XS PS DS l1 l2; (try (replace TS := KtsTurn.trans (by assumption) TS)); (have e1 := l1); (have e2 := l2); (try k_lt e1); (try k_lt2 e2); (try dsimp only); (try k_sweep); (try k_fold))) | (k_here; (with_reducible show wpAny _ _ (PySem.call (Value.ref 357) [Value.ref _]) _ _ _); k_dflt (refine' g_mtime ?k1 ?k2 ?k3 ?k4 ?k5 ?k6 ?k7 ?k8 ?k9 ?k10 ?k11 ?vm1 ?vm2 ?_; (case k1 => k_asm); (case k2 => k_asm); (case k3 => k_asm); (case k4 => k_asm); (case k5 => k_asm); (case k6 => first | assumption | exact rfl); (case k7 => k_room); (case k8 => k_units); (case k9 => assumption); (case k10 => assumption); (case k11 => assumption); (case vm1 => k_mem); (case vm2 => k_mem); intro gS x' d' h' tk' q1 q2 q3 q4 q5 q6 z1 z2 z3 z4 z5 z6 TS FS NS BS XS PS DS l1 l2; (try (replace TS := KtsTurn.trans (by assumption) TS)); (have e1 := l1); (have e2 := l2); (try k_lt e1); (try k_lt2 e2); (try dsimp only); (try k_sweep); (try k_fold))) | (k_here; (with_reducible show wpAny _ _ (PySem.call (Value.ref 364) [Value.ref _]) _ _ _); k_dflt (refine' g_atime ?k1 ?k2 ?k3 ?k4 ?k5 ?k6 ?k7 ?k8 ?k9 ?k10 ?k11 ?vm1 ?vm2 ?_; (case k1 => k_asm); (case k2 => k_asm); (case k3 => k_asm); (case k4 => k_asm); (case k5 => k_asm); (case k6 => first | assumption | exact rfl); (case k7 => k_room); (case k8 => k_units); (case k9 => assumption); (case k10 => assumption); (case k11 => assumption); (case vm1 => k_mem); (case vm2 => k_mem); intro gS x' d' h' tk' q1 q2 q3 q4 q5 q6 z1 z2 z3 z4 z5 z6 TS FS NS BS XS PS DS l1 l2; (try (replace TS := KtsTurn.trans (by assumption) TS)); (have e1 := l1); (have e2 := l2); (try k_lt e1); (try k_lt2 e2); (try dsimp only); (try k_sweep); (try k_fold))) | ((with_reducible show Mine.wpC _ _ (PySem.execs (_ :: _) _) _ _ _); (first | with_reducible refine Mine.gen_toksC (fun tk' => ?_) | skip); with_reducible refine Mine.wpC_execs_any ?_) | (k_unfold; (try dsimp only)) | (k_end; wrow_close) | walk1 | (dsimp only; walk1) | (leave1; walk_say "STEP leave1"; try dsimp only) | fail "no step")
  all_goals (refine' hret _ _ _ ?zt ?zf ?zn ?zb ?zx ?zp ?zd; (case zf => assumption); (case zn => (refine' Mine.news_drop ?nN ?nS; (case nN => assumption); (case nS => (intro p hp; repeat (first | exact hp | exact hsb _ hp | refine List.mem_cons_of_mem _ ?_))))); (case zt => first | assumption | exact KtsTurn.refl); (case zb => assumption); (case zx => assumption); (case zp => assumption); (case zd => assumption))

theorem lmoment {w : World} {mean : ExcName → Option Value} {mg mb : Str → Option Value} {dp un : Nat} {gd : Option (List Code)} {cn : Str} {cs : Scope} {a : Addr} {ccd : Value} {cl : List (Str × Addr)} {outer : List Env} {A₀ : Around} {base h₀ : Heap} {L : Addr} {m : Str → Option Value} {s : Shared} {Q E : Value → Shared → Prop} {news : List (Addr × Obj)} {nl n : Addr} {y mo d h mi se : Int} {t t1 t2 t3 t4 t5 t6 : Tok}
    (B : Below A₀ base outer h₀) (F : Fr h₀ L s.heap m) (X : (Mine.Lt.names.heap_1 w.params).In h₀) (N : News h₀ L s.heap news) (T : Top topProg (Mine.LoOf Mine.Lt.names.view_1) mean mg mb h₀) (hk : cs.kind = .function) (hdp : dp + 100 < recursionLimit) (hun : un + 100 * 10 < cLine) (XB : (Mine.Lt.names.heap_1 w.params).In base) (TB : Top topProg (Mine.LoOf Mine.Lt.names.view_1) mean mg mb base) (D : KtsDicts (outer.filterMap (·.frame)) h₀)
    (ml : (nl, PySem.W.listOf #[.int y t1, .int mo t2, .int d t3, .int h t4, .int mi t5, .int se t6] n) ∈ news) (okt : Mine.TimeOk h mi se) (okd : Mine.DateOk y mo d) (ge : 1980 ≤ y) (le : y ≤ 2107)
    (hret : ∀ (hZ : Heap) (h' : Heap) (tk : Nat), KtsTurn (outer.filterMap (·.frame)) h₀ hZ → Fr hZ L h' m → News hZ L h' (news) → Below A₀ base outer hZ → (Mine.Lt.names.heap_1 w.params).In hZ → Top topProg (Mine.LoOf Mine.Lt.names.view_1) mean mg mb hZ → KtsDicts (outer.filterMap (·.frame)) hZ → Q (.bool true) { s with heap := h', toks := tk }) :
    Mine.wpC (model PySem.Challenge.rw_iw0015_01.row.prog w) (Mine.aTop none dp un gd cn cs L a ccd cl outer) (call (.ref 735) [.ref nl]) Q E s := by
  have okt' := okt; have okd' := okd
  obtain ⟨v1, v2, v3, v4, v5, v6⟩ := okt'
  obtain ⟨w1, w2, w3, w4, w5, w6⟩ := okd'
  have w7 := Mine.dlen_le y mo
  have bkd := Mine.back_date okd ge (by omega)
  have bkt := Mine.back_time okt
  revert X; k_fill; intro X
  obtain ⟨sh9, sg9, sd9, st9, so9⟩ := s; (try dsimp only at F N); (try dsimp only at hret); (try dsimp only at hno)
  refine Mine.wpC_call ?_
  k_dflt (refine' Mine.code_defTC (binds := [((Str.ofString "numbers"), .ref nl)]) ?k1 ?k2 ?k3 ?k4 ?k5 ?XB ?TB ?D ?T0 ?kA ?kF ?cK ?k6 ?k7 ?k8 ?k9 ?kB ?kD ?_ ?c2 ?c3 ?c4; (case kA => exact rfl); (case kF => exact rfl); (case k2 => k_asm); (case k1 => k_asm); (case XB => assumption); (case TB => assumption); (case D => assumption); (case T0 => exact KtsTurn.refl); (case k3 => k_asm); (case k4 => k_asm); (case k5 => k_asm); (case k6 => k_is); (case k7 => k_is); (case k8 => k_room); (case k9 => first | exact BindsTo.of_eq rfl | exact binds_K (by k_in) rfl (by k_is) rfl rfl rfl); (case kB => exact rfl); (case kD => decide +kernel); (case cK => first | assumption | exact rfl); (case c2 => exact rfl); (case c3 => exact rfl); (case c4 => exact rfl); k_whole; intro g' L' h' tk' cells' FG' F' N' Y' l1 B' X' T' D'; (try k_lt l1); (first | k_cells Y' | cases Y'); (try simp only [List.cons_append, List.nil_append] at N'); (try dsimp only); (try k_fold))
  refine Mine.gen_toksC (fun tk0 => ?_)
  repeat' (first | (k_end; dsimp only; (with_reducible show Mine.wpC _ _ _ _ _ _)) | ((with_reducible show Mine.wpC _ _ (PySem.execs (PySem.Stmt.Assign [PySem.Expr.Name (Str.ofString "even") _] _ _ :: _) _) _ _ _); (fail_if_success (have q := hs_even)); (with_reducible rename News _ _ _ _ => NS9); obtain ⟨led_even, NV9, hs_even⟩ := Mine.sealed NS9; clear NS9; (repeat (have q9 := Mine.sub_cons hs_even; clear hs_even; obtain ⟨mm9, hs_even⟩ := q9)); (try (repeat (with_reducible rename (_ ∈ news) => mo9; have mn9 := hs_even _ mo9; clear mo9))); (first | replace hsb := fun p hp => hs_even p (hsb p hp) | have hsb := hs_even); (try dsimp only)) | ((with_reducible show Mine.wpC _ _ (PySem.execs (PySem.Stmt.Assign [PySem.Expr.Name (Str.ofString "short") _] _ _ :: _) _) _ _ _); (fail_if_success (have q := hs_short)); (with_reducible rename News _ _ _ _ => NS9); obtain ⟨led_short, NV9, hs_short⟩ := Mine.sealed NS9; clear NS9; (repeat (have q9 := Mine.sub_cons hs_short; clear hs_short; obtain ⟨mm9, hs_short⟩ := q9)); (try (repeat (with_reducible rename (_ ∈ led_even) => mo9; have mn9 := hs_short _ mo9; clear mo9))); (first | replace hsb := fun p hp => hs_short p (hsb p hp) | have hsb := hs_short); (try dsimp only)) | ((with_reducible show Mine.wpC _ _ (PySem.execs (PySem.Stmt.Assign [PySem.Expr.Name (Str.ofString "entry") _] _ _ :: _) _) _ _ _); (fail_if_success (have q := hs_entry)); (with_reducible rename News _ _ _ _ => NS9); obtain ⟨led_entry, NV9, hs_entry⟩ := Mine.sealed NS9; clear NS9; (repeat (have q9 := Mine.sub_cons hs_entry; clear hs_entry; obtain ⟨mm9, hs_entry⟩ := q9)); (try (repeat (with_reducible rename (_ ∈ led_even) => mo9; have mn9 := hs_entry _ mo9; clear mo9))); (try (repeat (with_reducible rename (_ ∈ led_short) => mo9; have mn9 := hs_entry _ mo9; clear mo9))); (first | replace hsb := fun p hp => hs_entry p (hsb p hp) | have hsb := hs_entry); (try dsimp only)) | ((with_reducible show ∃ _, wpAny _ _ (PySem.pyIter (Value.ref _)) _ _ _); (fail_if_success (have q := hs_iter)); (with_reducible rename News _ _ _ _ => NS9); obtain ⟨led_iter, NV9, hs_iter⟩ := Mine.sealed NS9; clear NS9; (repeat (have q9 := Mine.sub_cons hs_iter; clear hs_iter; obtain ⟨mm9, hs_iter⟩ := q9)); (try (repeat (with_reducible rename (_ ∈ led_even) => mo9; have mn9 := hs_iter _ mo9; clear mo9))); (try (repeat (with_reducible rename (_ ∈ led_short) => mo9; have mn9 := hs_iter _ mo9; clear mo9))); (try (repeat (with_reducible rename (_ ∈ led_entry) => mo9; have mn9 := hs_iter _ mo9; clear mo9))); (first | replace hsb := fun p hp => hs_iter p (hsb p hp) | have hsb := hs_iter); (try dsimp only)) | ((with_reducible show wpAny _ _ (PySem.execs (PySem.Stmt.Assign [PySem.Expr.Name (Str.ofString "told") _] _ _ :: _) _) _ _ _); (fail_if_success (have q := hs_told)); (with_reducible rename News _ _ _ _ => NS9); obtain ⟨led_told, NV9, hs_told⟩ := Mine.sealed NS9; clear NS9; (repeat (have q9 := Mine.sub_cons hs_told; clear hs_told; obtain ⟨mm9, hs_told⟩ := q9)); (try (repeat (with_reducible rename (_ ∈ led_even) => mo9; have mn9 := hs_told _ mo9; clear mo9))); (try (repeat (with_reducible rename (_ ∈ led_short) => mo9; have mn9 := hs_told _ mo9; clear mo9))); (try (repeat (with_reducible rename (_ ∈ led_entry) => mo9; have mn9 := hs_told _ mo9; clear mo9))); (try (repeat (with_reducible rename (_ ∈ led_iter) => mo9; have mn9 := hs_told _ mo9; clear mo9))); (first | replace hsb := fun p hp => hs_told p (hsb p hp) | have hsb := hs_told); (try dsimp only)) | ((with_reducible show wpAny _ _ (subscriptTail _ _ (Value.ref _) (Value.int _ _)) _ _ _); k_here; k_dflt (refine' Mine.item_lit ?N ?m ?h0 ?hf ?hx ?_; (case N => k_asm); (case m => k_mem); (case h0 => decide); (case hf => decide); (case hx => exact rfl); k_whole)) | ((with_reducible show wpAny _ _ (PySem.exec (PySem.Stmt.For (PySem.Expr.Name _ _) (PySem.Expr.Tuple _ _ _) _ _ _) _) _ _ _); k_here; k_dflt (refine Mine.For_late (by rfl) (by rfl) PassesOwn.never ?_)) | ((with_reducible show ∃ _, wpAny _ _ (PySem.pyIter (Value.ref _)) _ _ _); k_dflt (refine Mine.iter_tupUnr (by rfl) (by k_asm) (by k_asm) (by k_mem) ?_); intro iL lL; (have eL := lL); (try k_lt eL)) | ((with_reducible show Mine.TupRest _ _ _ _ _ _ _ _ _ _ _ _ _ _ _); with_unfolding_all first | (refine Mine.TupRest.succ (fun it' h' tk' F' N' => ?_)) | (refine Mine.TupRest.zero (fun h' tk' F' N' => ?_)); (try dsimp only)) | ((with_reducible show UnrEnd _ _ _ _ _ (fun _ _ => _ ∧ _) _); refine' UnrEnd.intro ?uF ?uN _ ?uS (fun p hp => Nat.ne_of_lt (lL p hp)) ⟨?um, ?_⟩; (case uF => assumption); (case uN => assumption); (case uS => (refine List.forall_mem_cons.mpr ⟨by k_mem, ?_⟩; intro p hp; repeat (first | exact hp | refine List.mem_cons_of_mem _ ?_))); (case um => k_mem)) | ((with_reducible show Mine.wpC _ _ (PySem.execs (PySem.Stmt.Expr (PySem.Expr.Call (PySem.Expr.Attribute _ (Str.ofString "set_str_name") _) _ _ _) _ :: _) _) _ _ _); k_dflt (refine' Mine.wpC_execs_cons (Mine.wpC_Expr_None (Mine.wpC_meth1 (f := .ref 254) (K := Mine.Lt.names.heap_1 w.params) ?he ?hk ?_)); (case he => exact rfl); (case hk => k_is))) | ((with_reducible show (Prod.fst _ = _ ∧ _)); refine ⟨rfl, ?_⟩; dsimp only) | ((with_reducible show Mine.wpC _ _ (PySem.call (Value.ref 254) _ _) _ _ _); k_dflt (refine' setnM ?k1 ?k2 ?k3 ?k4 ?k5 ?k6 ?k7 ?k8 ?vlt1 ?vlt2 ?_; (case k1 => k_asm); (case k2 => k_asm); (case k3 => k_asm); (case k4 => k_asm); (case k5 => k_asm); (case k6 => first | assumption | exact rfl); (case k7 => k_room); (case k8 => k_units); (case vlt1 => assumption); (case vlt2 => assumption); intro b' h' tk' q1 q2 q3 F' N' lb1; (have eb1 := lb1); (try k_lt2 eb1); (try dsimp only); refine ⟨rfl, ?_⟩)) | ((with_reducible show Mine.wpC _ _ (PySem.execs (PySem.Stmt.Assign [PySem.Expr.Name (Str.ofString "entry") _] _ _ :: _) _) _ _ _); refine Mine.wpC_never ?_) | ((with_reducible show wpAny _ _ (PySem.call (Prod.fst _) _ _) _ _ _); dsimp only [List.nil_append, List.cons_append]) | ((with_reducible show wpAny _ _ (PySem.callWith _ (Prod.fst _) _ _ _) _ _ _); dsimp only) | ((with_reducible show wpAny _ _ (PySem.callWith _ (Value.ref _) _ (backTo _ (starEach List.nil _)) List.nil) _ _ _); k_dflt (refine' callWith_K0 ?X ?hk ?_; (case X => k_in); (case hk => k_is)); dsimp only [List.nil_append, List.cons_append]) | (k_here; (with_reducible show wpAny _ _ (PySem.call (Value.ref 305) List.nil) _ _ _); k_dflt (refine' eight ?k1 ?k2 ?k3 ?k4 ?k5 ?k6 ?k7 ?k8 ?_; (case k1 => k_asm); (case k2 => k_asm); (case k3 => k_asm); (case k4 => k_asm); (case k5 => k_asm); (case k6 => first | assumption | exact rfl); (case k7 => k_room); (case k8 => k_units); intro x' d' h' tk' q1 q2 q3 z1 F' N' l1 l2; (have e1 := l1); (have e2 := l2); (try k_lt e1); (try k_lt2 e2); (try dsimp only); (try k_sweep); (try k_fold))) | (k_here; (with_reducible show wpAny _ _ (PySem.call (Value.ref 104) [Value.int _ _, Value.int _ _, Value.int _ _, Value.int _ _, Value.int _ _, Value.int _ _]) _ _ _); k_dflt (refine' c_date ?k1 ?k2 ?k3 ?k4 ?k5 ?k6 ?k7 ?k8 ?vokt ?vokd ?_; (case k1 => k_asm); (case k2 => k_asm); (case k3 => k_asm); (case k4 => k_asm); (case k5 => k_asm); (case k6 => first | assumption | exact rfl); (case k7 => k_room); (case k8 => k_units); (case vokt => assumption); (case vokd => assumption); intro x' d' h' tk' q1 q2 q3 q4 q5 q6 F' N' l1 l2; (have e1 := l1); (have e2 := l2); (try k_lt e1); (try k_lt2 e2); (try dsimp only); (try k_sweep); (try k_fold))) | (k_here; (with_reducible show wpAny _ _ (PySem.call (Value.ref 74) [Value.ref _]) _ _ _); k_dflt (refine' s_date ?k1 ?k2 ?k3 ?k4 ?k5 ?k6 ?k7 ?k8 ?vm1 ?vm2 ?vokd ?vge ?_; (case k1 => k_asm); (case k2 => k_asm); (case k3 => k_asm); (case k4 => k_asm); (case k5 => k_asm); (case k6 => first | assumption | exact rfl); (case k7 => k_room); (case k8 => k_units); (case vm1 => k_mem); (case vm2 => k_mem); (case vokd => first | assumption | (unfold Mine.DateOk; omega)); (case vge => first | assumption | omega); intro h' tv tk' F' N'; (try dsimp only); (try k_sweep); (try k_fold))) | (k_here; (with_reducible show wpAny _ _ (PySem.call (Value.ref 81) [Value.ref _]) _ _ _); k_dflt (refine' s_time ?k1 ?k2 ?k3 ?k4 ?k5 ?k6 ?k7 ?k8 ?vm1 ?vm2 ?vokt ?_; (case k1 => k_asm); (case k2 => k_asm); (case k3 => k_asm); (case k4 => k_asm); (case k5 => k_asm); (case k6 => first | assumption | exact rfl); (case k7 => k_room); (case k8 => k_units); (case vm1 => k_mem); (case vm2 => k_mem); (case vokt => first | assumption | (unfold Mine.TimeOk; omega)); intro h' tv tk' F' N'; (try dsimp only); (try k_sweep); (try k_fold))) | (k_here; (with_reducible show wpAny _ _ (PySem.call (Value.ref 702) [Value.int _ _]) _ _ _); k_dflt (refine' ldate ?k1 ?k2 ?k3 ?k4 ?k5 ?k6 ?k7 ?k8 ?vz0 ?vz1 ?_; (case k1 => k_asm); (case k2 => k_asm); (case k3 => k_asm); (case k4 => k_asm); (case k5 => k_asm); (case k6 => first | assumption | exact rfl); (case k7 => k_room); (case k8 => k_units); (case vz0 => first | assumption | omega | exact Mine.fm_lo _ | exact Mine.fm_hi _); (case vz1 => first | assumption | omega | exact Mine.fm_lo _ | exact Mine.fm_hi _); intro l' h' u1' u2' u3' tk' F' N' l1; (try simp only [bkd.1, bkd.2.1, bkd.2.2, bkt.1, bkt.2.1, bkt.2.2] at N'); (have e1 := l1); (try k_lt e1); (try dsimp only); (try k_sweep); (try k_fold))) | (k_here; (with_reducible show wpAny _ _ (PySem.call (Value.ref 709) [Value.int _ _]) _ _ _); k_dflt (refine' ltim ?k1 ?k2 ?k3 ?k4 ?k5 ?k6 ?k7 ?k8 ?vz0 ?vz1 ?_; (case k1 => k_asm); (case k2 => k_asm); (case k3 => k_asm); (case k4 => k_asm); (case k5 => k_asm); (case k6 => first | assumption | exact rfl); (case k7 => k_room); (case k8 => k_units); (case vz0 => first | assumption | omega | exact Mine.fm_lo _ | exact Mine.fm_hi _); (case vz1 => first | assumption | omega | exact Mine.fm_lo _ | exact Mine.fm_hi _); intro l' h' u1' u2' u3' tk' F' N' l1; (try simp only [bkd.1, bkd.2.1, bkd.2.2, bkt.1, bkt.2.1, bkt.2.2] at N'); (have e1 := l1); (try k_lt e1); (try dsimp only); (try k_sweep); (try k_fold))) | (k_here; (with_reducible show wpAny _ _ (PySem.call (Value.ref 340) [_, Value.ref _, _]) _ _ _); k_dflt (refine' new ?k1 ?k2 ?k3 ?k4 ?k5 ?k6 ?k7 ?k8 ?k9 ?k10 ?k11 ?vm1 ?vm2 ?vokt ?vokd ?vge ?_; (case k1 => k_asm); (case k2 => k_asm); (case k3 => k_asm); (case k4 => k_asm); (case k5 => k_asm); (case k6 => first | assumption | exact rfl); (case k7 => k_room); (case k8 => k_units); (case k9 => assumption); (case k10 => assumption); (case k11 => assumption); (case vm1 => k_mem); (case vm2 => k_mem); (case vokt => first | assumption | (unfold Mine.TimeOk; omega)); (case vokd => first | assumption | (unfold Mine.DateOk; omega)); (case vge => first | assumption | omega); intro gS x' d' s' h' tk' q1 q2 q3 q4 q5 q6 q7 q8 q9 q10 q11 q12 q13 q14 q15 q16 q17 q18 z2 z3 z4 z5 z6 z7 z8 z9 z10 z11 z12 TS FS NS BS XS PS DS l1 l2; (try (replace TS := KtsTurn.trans (by assumption) TS)); (have e1 := l1); (have e2 := l2); (try k_lt e1); (try k_lt2 e2); (try dsimp only); (try k_sweep); (try k_fold))) | (k_here; (with_reducible show wpAny _ _ (PySem.call (Value.ref 350) [Value.ref _]) _ _ _); k_dflt (refine' g_ctime ?k1 ?k2 ?k3 ?k4 ?k5 ?k6 ?k7 ?k8 ?k9 ?k10 ?k11 ?vm1 ?vm2 ?_; (case k1 => k_asm); (case k2 => k_asm); (case k3 => k_asm); (case k4 => k_asm); (case k5 => k_asm); (case k6 => first | assumption | exact rfl); (case k7 => k_room); (case k8 => k_units); (case k9 => assumption); (case k10 => assumption); (case k11 => assumption); (case vm1 => k_mem); (case vm2 => k_mem); intro gS x' d' h' tk' q1 q2 q3 q4 q5 q6 z1 z2 z3 z4 z5 z6 TS FS NS BS XS PS DS l1 l2; (try (replace TS := KtsTurn.trans (by assumption) TS)); (try simp only [bkd.1, bkd.2.1, bkd.2.2, bkt.1, bkt.2.1, bkt.2.2] at NS); (have e1 := l1); (have e2 := l2); (try k_lt e1); (try k_lt2 e2); (try dsimp only); (try k_sweep); (try k_fold))) | (k_here; (with_reducible show wpAny _ _ (PySem.call (Value.ref 357) [Value.ref _]) _ _ _); k_dflt (refine' g_mtime ?k1 ?k2 ?k3 ?k4 ?k5 ?k6 ?k7 ?k8 ?k9 ?k10 ?k11 ?vm1 ?vm2 ?_; (case k1 => k_asm); (case k2 => k_asm); (case k3 => k_asm); (case k4 => k_asm); (case k5 => k_asm); (case k6 => first | assumption | exact rfl); (case k7 => k_room); (case k8 => k_units); (case k9 => assumption); (case k10 => assumption); (case k11 => assumption); (case vm1 => k_mem); (case vm2 => k_mem); intro gS x' d' h' tk' q1 q2 q3 q4 q5 q6 z1 z2 z3 z4 z5 z6 TS FS NS BS XS PS DS l1 l2; (try (replace TS := KtsTurn.trans (by assumption) TS)); (try simp only [bkd.1, bkd.2.1, bkd.2.2, bkt.1, bkt.2.1, bkt.2.2] at NS); (have e1 := l1); (have e2 := l2); (try k_lt e1); (try k_lt2 e2); (try dsimp only); (try k_sweep); (try k_fold))) | (k_here; (with_reducible show wpAny _ _ (PySem.call (Value.ref 364) [Value.ref _]) _ _ _); k_dflt (refine' g_atime ?k1 ?k2 ?k3 ?k4 ?k5 ?k6 ?k7 ?k8 ?k9 ?k10 ?k11 ?vm1 ?vm2 ?_; (case k1 => k_asm); (case k2 => k_asm); (case k3 => k_asm); (case k4 => k_asm); (case k5 => k_asm); (case k6 => first | assumption | exact rfl); (case k7 => k_room); (case k8 => k_units); (case k9 => assumption); (case k10 => assumption); (case k11 => assumption); (case vm1 => k_mem); (case vm2 => k_mem); intro gS x' d' h' tk' q1 q2 q3 q4 q5 q6 z1 z2 z3 z4 z5 z6 TS FS NS BS XS PS DS l1 l2; (try (replace TS := KtsTurn.trans (by assumption) TS)); (try simp only [bkd.1, bkd.2.1, bkd.2.2, bkt.1, bkt.2.1, bkt.2.2] at NS); (have e1 := l1); (have e2 := l2); (try k_lt e1); (try k_lt2 e2); (try dsimp only); (try k_sweep); (try k_fold))) | ((with_reducible show Mine.wpC _ _ (PySem.execs (_ :: _) _) _ _ _); (first | with_reducible refine Mine.gen_toksC (fun tk' => ?_) | skip); with_reducible refine Mine.wpC_execs_any ?_) | (k_unfold; (try dsimp only)) | (k_end; wrow_close) | walk1 | (dsimp only; walk1) | (leave1; walk_say "STEP leave1"; try dsimp only) | fail "no step")
  all_goals (refine' hret _ _ _ ?zt ?zf ?zn ?zb ?zx ?zp ?zd; (case zf => assumption); (case zn => (refine' Mine.news_drop ?nN ?nS; (case nN => assumption); (case nS => (intro p hp; repeat (first | exact hp | exact hsb _ hp | refine List.mem_cons_of_mem _ ?_))))); (case zt => first | assumption | exact KtsTurn.refl); (case zb => assumption); (case zx => assumption); (case zp => assumption); (case zd => assumption))

theorem walk : Mine.Lt.names.P := by
  delta Mine.Lt.names
  refine Mine.pk_val ?_
  k_fill
  intro w s₀ s₁ mg mb G Y fa o pm cd doc dV kV ho hd hcd hD hmg hg args vals as hpre hlay hrd hwl hlo
  have KX := km_in_of Y
  km_tabs Y
  have X := (Ground.X G).1
  have V := (Ground.X G).2
  refine Ground.open G ?_
  intro T B D TE TW
  try (refine guard_noD D (by decide +kernel) ?_; clear D)
  km_lay T hmg ho hd cd
  clear hmg
  wrow_args hpre hlay hrd hwl hlo
  refine Mine.enter_callC ?_
  w_top on
  refine Mine.kn_postC hT9 (fun _ _ => rfl) ?_
  have he := Dflts.none hD rfl; subst he; have he := Dflts.noKw hD; subst he
  refine Mine.call_cellsC (by decide) ho (fd_plain hd) (Top.nolimit T) hcd rfl (kinds_of (by kinds_ok)) (by decide) fun h₁ tk₁ cells F N0 X0 => ?_
  (first | cells_open X0 | cases X0)
  clear hd
  kn_ghosts F T
  k_drop
  dsimp only
  (try clear hcd); (try clear hD); (try clear X0)
  (try (rename (_ = Data.cell _) => rt9; replace rt9 : _ = Data.cell (some (Value.ref _)) := rt9))
  (try (rename Top _ _ _ _ _ _ => T9; replace T9 : Top topProg (Mine.LoOf Mine.Lt.names.view_1) _ _ _ _ := T9))
  have D0 := Mine.dicts_nil (by assumption : Below callerA _ [] _)
  apply Mine.later
  case wk9 =>
    intro REST
    repeat' ((fail_if_success (with_reducible show Mine.wpC _ _ (PySem.execs (PySem.Stmt.For _ _ _ _ _ :: _) _) _ _ _)); first | (k_end; dsimp only; (with_reducible show Mine.wpC _ _ _ _ _ _)) | ((with_reducible show Mine.wpC _ _ (PySem.execs (_ :: _) _) _ _ _); (first | with_reducible refine Mine.gen_toksC (fun tk' => ?_) | skip); with_reducible refine Mine.wpC_execs_any ?_) | (k_unfold; (try dsimp only)) | (k_end; wrow_close) | walk1 | (dsimp only; walk1) | (leave1; walk_say "STEP leave1"; try dsimp only) | fail "no step")
    all_goals refine Mine.cut01 (by assumption) (by assumption) (by rfl) (by rfl) (by k_dflt k_mem) (by first | assumption | exact IntsAre.cons _ _ IntsAre.nil) (by first | (simp only [List.length_map]; omega) | decide) (by first | (simp only [List.length_map]; omega) | decide) (by first | exact Mine.words_ok _ | exact Mine.words_one _) ?_ REST.get
    all_goals (intro m9 h9 k9 F9 N9; (try dsimp only))
    all_goals (refine ⟨?_, And.intro (GrownAt.of N9 (by k_dflt k_mem)) trivial⟩; first | (wrow_close; done) | ((k_end); wrow_close) | wrow_closeG)
  case rs9 =>
    constructor
    intro Q9 E9 s9 m₀ news ys ns D hD hI h1 h6 hb F' N' hret
    obtain ⟨sh9, sg9, sd9, st9, so9⟩ := s9; (try dsimp only at F' N' hret)
    repeat' (first | (k_end; dsimp only; (with_reducible show Mine.wpC _ _ _ _ _ _)) | ((with_reducible show Mine.wpC _ _ (PySem.execs (PySem.Stmt.Assign [PySem.Expr.Name (Str.ofString "day") _] _ _ :: _) _) _ _ _); (try dsimp only); refine Mine.cut_n (by assumption) (by assumption) MK9 (by intro p hp; repeat (first | exact hp | refine List.mem_cons_of_mem _ ?_)) (by rfl) REST9.get) | ((with_reducible show Mine.Box _); constructor; intro nn9 tn9 m9 h9 k9 F9 N9; (try dsimp only)) | ((with_reducible show Mine.wpC _ _ (PySem.execs (PySem.Stmt.Assign [PySem.Expr.Name (Str.ofString "right") _] _ _ :: _) _) _ _ _); (fail_if_success (have q := NF9)); (with_reducible rename News _ _ _ _ => NW9); obtain ⟨a0, a1, a2, a3, a4, a5, q0, q1, q2, q3, q4, q5, NF9⟩ := Mine.forget6 NW9; clear NW9; (try dsimp only)) | ((with_reducible show Mine.wpC _ _ (PySem.execs (PySem.Stmt.Assign [PySem.Expr.Name (Str.ofString "last") _] _ _ :: _) _) _ _ _); (fail_if_success (have q := ND9)); (with_reducible rename News _ _ _ _ => NW9); obtain ⟨d0, d1, d2, d3, d4, d5, q0, q1, q2, q3, q4, q5, by1, by2, bm1, bm2, od9, ot9, ND9⟩ := Mine.day6 NW9; clear NW9; (try dsimp only)) | ((with_reducible show wpAny _ _ (PySem.compareOp PySem.CmpOp.NotEq (Value.ref _) Value.none) _ _ _); exfalso; (with_reducible rename Mine.TimeOk _ _ _ => q9); exact absurd q9 (by assumption)) | (k_here; (with_reducible show wpAny _ _ (PySem.call (Value.ref 716) [Value.int 0 _, Value.ref _]) _ _ _); k_dflt (refine' lmade0 ?k1 ?k2 ?k3 ?k4 ?k5 ?k6 ?k7 ?k8 ?k9 ?k10 ?k11 ?vml ?_ ?_; (case k1 => k_asm); (case k2 => k_asm); (case k3 => k_asm); (case k4 => k_asm); (case k5 => k_asm); (case k6 => first | assumption | exact rfl); (case k7 => k_room); (case k8 => k_units); (case k9 => assumption); (case k10 => assumption); (case k11 => assumption); (case vml => k_mem); (intro hY; first | exact absurd hY.1 (by assumption) | exact absurd hY.2 (by assumption) | (intro gS l' h' u1' u2' u3' u4' u5' u6' tk' TS FS NS BS XS PS DS l1; (have FL := Mine.turn_nil TS FS); (have NL := Mine.turn_nilN TS NS); clear TS FS NS BS XS PS DS; (try simp only [Mine.dY_mod, Mine.dM_mod, Mine.dD_mod, Mine.tH_mod, Mine.tM_mod, Mine.tS_mod] at NL); (have e1 := l1); (try k_lt e1); (try dsimp only); (try k_sweep))); rotate_left; (intro hY; first | exact absurd ⟨by assumption, by assumption⟩ hY | (intro gS h' tk' TS FS NS BS XS PS DS; (have FL := Mine.turn_nil TS FS); (have NL := Mine.turn_nilN TS NS); clear TS FS NS BS XS PS DS; (try simp only [Mine.dY_mod, Mine.dM_mod, Mine.dD_mod, Mine.tH_mod, Mine.tM_mod, Mine.tS_mod] at NL); (try dsimp only); (try k_sweep))); rotate_left)) | (k_here; (with_reducible show wpAny _ _ (PySem.call (Value.ref 716) [Value.int 1 _, Value.ref _]) _ _ _); k_dflt (refine' lmade1 ?k1 ?k2 ?k3 ?k4 ?k5 ?k6 ?k7 ?k8 ?k9 ?k10 ?k11 ?vml ?_ ?_; (case k1 => k_asm); (case k2 => k_asm); (case k3 => k_asm); (case k4 => k_asm); (case k5 => k_asm); (case k6 => first | assumption | exact rfl); (case k7 => k_room); (case k8 => k_units); (case k9 => assumption); (case k10 => assumption); (case k11 => assumption); (case vml => k_mem); (intro hY; first | exact absurd hY (by assumption) | (intro gS l' h' u1' u2' u3' tk' TS FS NS BS XS PS DS l1; (have FL := Mine.turn_nil TS FS); (have NL := Mine.turn_nilN TS NS); clear TS FS NS BS XS PS DS; (try simp only [Mine.dY_mod, Mine.dM_mod, Mine.dD_mod, Mine.tH_mod, Mine.tM_mod, Mine.tS_mod] at NL); (have e1 := l1); (try k_lt e1); (try dsimp only); (try k_sweep))); rotate_left; (intro hY; first | exact absurd (by assumption) hY | (intro gS h' tk' TS FS NS BS XS PS DS; (have FL := Mine.turn_nil TS FS); (have NL := Mine.turn_nilN TS NS); clear TS FS NS BS XS PS DS; (try simp only [Mine.dY_mod, Mine.dM_mod, Mine.dD_mod, Mine.tH_mod, Mine.tM_mod, Mine.tS_mod] at NL); (try dsimp only); (try k_sweep))); rotate_left)) | (k_here; (with_reducible show wpAny _ _ (PySem.call (Value.ref 681) [Value.int _ _, Value.int _ _]) _ _ _); k_dflt (refine' ldays ?k1 ?k2 ?k3 ?k4 ?k5 ?k6 ?k7 ?k8 ?vb1 ?vb2 ?vb3 ?vb4 ?_; (case k1 => k_asm); (case k2 => k_asm); (case k3 => k_asm); (case k4 => k_asm); (case k5 => k_asm); (case k6 => first | assumption | exact rfl); (case k7 => k_room); (case k8 => k_units); (case vb1 => exact Mine.y_lo by1); (case vb2 => exact Mine.y_hi by2); (case vb3 => first | exact bm1 | exact Mine.m_lo bm1); (case vb4 => first | exact Mine.m_hi bm2 | exact Mine.m_hi1 bm2); intro h' tv tk' F' N'; (try dsimp only); (try k_sweep); (try k_fold))) | ((with_reducible show Mine.wpC _ _ (PySem.call (Value.ref 735) [Value.ref _]) _ _ _); k_dflt (refine' lmoment (t := 0) ?k1 ?k2 ?k3 ?k4 ?k5 ?k6 ?k7 ?k8 ?k9 ?k10 ?k11 ?vml ?vokt ?vokd ?vge ?vle ?_; (case k1 => k_asm); (case k2 => k_asm); (case k3 => k_asm); (case k4 => k_asm); (case k5 => k_asm); (case k6 => first | assumption | exact rfl); (case k7 => k_room); (case k8 => k_units); (case k9 => assumption); (case k10 => assumption); (case k11 => assumption); (case vml => k_mem); (case vokt => assumption); (case vokd => first | assumption | exact Mine.last_ok (by assumption)); (case vge => exact by1); (case vle => exact by2); intro gS h' tk' TS FS NS BS XS PS DS; (have FL := Mine.turn_nil TS FS); (have NL := Mine.turn_nilN TS NS); clear TS FS NS BS XS PS DS; (try simp only [Mine.dY_mod, Mine.dM_mod, Mine.dD_mod, Mine.tH_mod, Mine.tM_mod, Mine.tS_mod] at NL); (try dsimp only))) | ((with_reducible show Mine.wpC _ _ (PySem.execs [] _) _ _ _); with_reducible refine Mine.wpC_execs_nil ?_; (try dsimp only)) | ((with_reducible show wpAny _ _ (PySem.eval (PySem.Expr.BoolOp PySem.BoolOp.Or [PySem.Expr.Subscript _ _ _, PySem.Expr.List _ _] _) _) _ _ _); (fail_if_success (with_reducible show wpAny _ _ _ (Mine.JI _ _ _ _ _) _ _)); refine Mine.join_ints (by k_asm) (by k_asm) ?_ ?_; rotate_left; (intro ax9 vs9 ns9 k9 h9 tk9 F9 N9 I9; (try dsimp only))) | ((with_reducible show Mine.JI _ _ _ _ _ _ _); exact Mine.ji_of (by assumption) (by assumption) (by k_dflt k_mem) (by intro p hp; repeat (first | exact hp | refine List.mem_cons_of_mem _ ?_)) (by first | assumption | exact IntsAre.cons _ _ IntsAre.nil)) | ((with_reducible show wpAny _ _ (PySem.pyIter (Value.ref ax9)) _ _ _); k_dflt (refine Mine.ints_loopC (by rfl) (by k_asm) (by k_asm) (List.Mem.head _) I9 (by rfl) (by rfl) (fun _ => True) trivial ?_ ?_); rotate_left; (intro m9 h9 k9 hJ9 F9 N9; clear hJ9; (try dsimp only)); rotate_left; (intro n9 t9 h9 k9 m9 Ib9 it9 lI9 hJ9 F9 N9; clear hJ9; (have eI := lI9); (try k_lt eI); (have MK9 := Mine.mark N9); (try dsimp only); apply Mine.later; intro REST9)) | ((with_reducible show Mine.TurnEnd _ _ _ _ _ _ _ _); refine Mine.turn_end (by assumption) (by assumption) (by intro p hp; repeat (first | exact hp | refine List.mem_cons_of_mem _ ?_)) ?_; exact ⟨by rfl, by rfl⟩) | ((with_reducible show Mine.TurnEnd _ _ _ _ _ _ _ _); exact Mine.turn_end (by assumption) (by assumption) (by intro p hp; repeat (first | exact hp | refine List.mem_cons_of_mem _ ?_)) trivial) | ((with_reducible show Q9 (PySem.Flow.ret (Value.bool true)) _); exact hret _ _ _ (by assumption) (Mine.news_drop (by assumption) (by intro p hp; repeat (first | exact hp | refine List.mem_cons_of_mem _ ?_)))) | ((with_reducible show Mine.wpC _ _ (PySem.execs (PySem.Stmt.Assign [PySem.Expr.Name (Str.ofString "n") _] _ _ :: _) _) _ _ _); (first | with_reducible refine Mine.gen_toksC (fun tk' => ?_) | skip); refine Mine.join_new (Str.ofString "n") Mine.AnInt (by k_asm) (by k_asm) ?_ ?_; rotate_left; (intro v9 hJ tJ hv9 F' N'; obtain ⟨nn, tn, rfl⟩ := hv9; (try dsimp only); (try k_sweep))) | ((with_reducible show Mine.wpC _ _ (PySem.execs (PySem.Stmt.Assign [PySem.Expr.Name (Str.ofString "year") _] _ _ :: _) _) _ _ _); (first | with_reducible refine Mine.gen_toksC (fun tk' => ?_) | skip); refine Mine.join_new (Str.ofString "year") Mine.AnInt (by k_asm) (by k_asm) ?_ ?_; rotate_left; (intro v9 hJ tJ hv9 F' N'; obtain ⟨yy, ty, rfl⟩ := hv9; (try dsimp only); (try k_sweep))) | ((with_reducible show Mine.JV _ _ _ _ _ Mine.AnInt _ _ _); exact Mine.jv_set (by assumption) (by assumption) (by intro p hp; repeat (first | exact hp | refine List.mem_cons_of_mem _ ?_)) ⟨_, _, rfl⟩) | ((with_reducible show wpAny _ _ (subscriptTail _ _ (Value.ref _) (Value.int _ _)) _ _ _); k_here; k_dflt (refine' Mine.item_lit ?N ?m ?h0 ?hf ?hx ?_; (case N => k_asm); (case m => k_mem); (case h0 => decide); (case hf => decide); (case hx => exact rfl); k_whole)) | (k_here; (with_reducible show wpAny _ _ (PySem.call (Value.ref 688) [Value.int _ _, Value.int _ _, Value.int _ _]) _ _ _); k_dflt (refine' lisday ?k1 ?k2 ?k3 ?k4 ?k5 ?k6 ?k7 ?k8 ?_; (case k1 => k_asm); (case k2 => k_asm); (case k3 => k_asm); (case k4 => k_asm); (case k5 => k_asm); (case k6 => first | assumption | exact rfl); (case k7 => k_room); (case k8 => k_units); intro h' tk' F' N'; (try dsimp only); (try k_sweep); (try k_fold))) | (k_here; (with_reducible show wpAny _ _ (PySem.call (Value.ref 695) [Value.int _ _, Value.int _ _, Value.int _ _]) _ _ _); k_dflt (refine' listime ?k1 ?k2 ?k3 ?k4 ?k5 ?k6 ?k7 ?k8 ?_; (case k1 => k_asm); (case k2 => k_asm); (case k3 => k_asm); (case k4 => k_asm); (case k5 => k_asm); (case k6 => first | assumption | exact rfl); (case k7 => k_room); (case k8 => k_units); intro h' tk' F' N'; (try dsimp only); (try k_sweep); (try k_fold))) | ((with_reducible show wpAny _ _ (PySem.call _ (HAppend.hAppend _ _) _) _ _ _); dsimp only [List.nil_append, List.cons_append]) | ((with_reducible show Mine.wpC _ _ (PySem.call _ (HAppend.hAppend _ _) _) _ _ _); dsimp only [List.nil_append, List.cons_append]) | ((with_reducible show Mine.wpC _ _ (PySem.execs (PySem.Stmt.For _ _ _ _ _ :: _) _) _ _ _); (first | with_reducible refine Mine.gen_toksC (fun tk' => ?_) | skip); refine Mine.wpC_execs_cons (Mine.wpC_For ?_)) | ((with_reducible show wpAny _ _ (PySem.call (Value.builtin "len") [Value.ref _]) _ _ _); k_here; k_dflt (refine Mine.len_words (by k_asm) hD hI h6 ?_); intro tL kL; (try dsimp only)) | ((with_reducible show wpAny _ _ (PySem.pyIter (Value.ref _)) _ _ _); k_dflt (refine Mine.range_loopC (by rfl) (by k_asm) (by k_asm) (by assumption) (small_one (by decide) (by decide) (by omega) (by omega)) (by rfl) (by rfl) (fun m' => m' (Str.ofString "words") = some (.ref D) ∧ m' (Str.ofString "script") = some (.ref _)) ⟨by rfl, by rfl⟩ ?_ ?_); rotate_left; (intro m9 h9 k9 hJ9 F9 N9; obtain ⟨hJ1, hJ2⟩ := hJ9; (have F8 := Mine.fr_two0 hJ1 hJ2 F9); clear F9; (try dsimp only)); rotate_left; (intro i9 t9 h9 k9 m9 I9 it9 hi9 lI9 hJ9 F9 N9; obtain ⟨hJ1, hJ2⟩ := hJ9; (have F8 := Mine.fr_two hJ1 hJ2 F9); clear F9 hJ1 hJ2; (have eI := lI9); (try k_lt eI); (try dsimp only))) | ((with_reducible show Mine.wpC _ _ (PySem.execs (PySem.Stmt.If (PySem.Expr.BoolOp PySem.BoolOp.Or [PySem.Expr.UnaryOp _ _ _, PySem.Expr.UnaryOp _ _ _] _) _ _ _ :: _) _) _ _ _); (first | with_reducible refine Mine.gen_toksC (fun tk' => ?_) | skip); refine Mine.wpC_execs_cons (Mine.wpC_IfC (Mine.wpC_isTrue_or2 (Mine.wpC_isTrue_not ?_)))) | ((with_reducible show Mine.wpC _ _ (PySem.isTrue (PySem.Expr.Call (PySem.Expr.Name (Str.ofString "_law_word") _) _ _ _) _ _) _ _ _); refine Mine.wpC_isTrue_call (Mine.wpC_of ?_)) | ((with_reducible show Mine.wpC _ _ (PySem.isTrue (PySem.Expr.Call (PySem.Expr.Name (Str.ofString "_law_entry") _) _ _ _) _ _) _ _ _); k_dflt (refine' Mine.wpC_isTrue_call (Mine.wpC_fn1 (K := Mine.Lt.names.heap_1 w.params) (f := .ref 728) ?fb9 ?fk9 ?_); (case fb9 => rfl); (case fk9 => k_is))) | ((with_reducible show Mine.wpC _ _ (PySem.isTrue (PySem.Expr.Call (PySem.Expr.Name (Str.ofString "_law_moment") _) _ _ _) _ _) _ _ _); k_dflt (refine' Mine.wpC_isTrue_call (Mine.wpC_fn1 (K := Mine.Lt.names.heap_1 w.params) (f := .ref 735) ?fb9 ?fk9 ?_); (case fb9 => rfl); (case fk9 => k_is))) | ((with_reducible show Mine.wpC _ _ (PySem.isTrue (PySem.Expr.UnaryOp _ _ _) _ _) _ _ _); refine Mine.wpC_isTrue_not ?_) | ((with_reducible show (Value.bool _ = Value.bool _ ∧ _)); refine ⟨rfl, ?_⟩; (try dsimp only); (try with_reducible (first | refine Mine.ite_nt ?_ | refine Mine.ite_t ?_ | refine Mine.ite_nf ?_)); (try dsimp only)) | ((with_reducible show (Value.ref _ = Value.ref _ ∧ _)); refine ⟨rfl, ?_⟩; (try dsimp only)) | ((with_reducible show (Frag.In _ _ ∧ _)); refine ⟨by k_dflt k_in, ?_⟩; (try dsimp only)) | ((with_reducible show wpAny _ _ (subscriptTail (PySem.Expr.Name (Str.ofString "words") _) _ (Value.ref _) (Value.int _ _)) _ _ _); k_here; k_dflt (refine Mine.item_word (by k_asm) (by k_mem) hI h1 h6 hb (by omega) (by omega) ?_); intro n9 u9 bl9 bu9; (try dsimp only)) | ((with_reducible show Mine.TurnEnd _ _ _ _ _ _ _ _); refine Mine.turn_end (by assumption) (by assumption) (by intro p hp; repeat (first | exact hp | refine List.mem_cons_of_mem _ ?_)) ?_; exact ⟨by rfl, by rfl⟩) | ((with_reducible show wpAny _ _ (PySem.call (Prod.fst _) _ _) _ _ _); dsimp only [List.nil_append, List.cons_append]) | (k_here; (with_reducible show wpAny _ _ (PySem.call (Value.ref 723) [Value.int _ _, Value.int _ _]) _ _ _); k_dflt (refine' lword ?k1 ?k2 ?k3 ?k4 ?k5 ?k6 ?k7 ?k8 ?k9 ?k10 ?k11 ?vz0 ?vz1 ?vy0 ?vy1 ?_; (case k1 => k_asm); (case k2 => k_asm); (case k3 => k_asm); (case k4 => k_asm); (case k5 => k_asm); (case k6 => first | assumption | exact rfl); (case k7 => k_room); (case k8 => k_units); (case k9 => assumption); (case k10 => assumption); (case k11 => assumption); (case vz0 => first | assumption | omega | exact Mine.fm_lo _ | exact Mine.fm_hi _); (case vz1 => first | assumption | omega | exact Mine.fm_lo _ | exact Mine.fm_hi _); (case vy0 => first | assumption | omega | exact Mine.fm_lo _ | exact Mine.fm_hi _); (case vy1 => first | assumption | omega | exact Mine.fm_lo _ | exact Mine.fm_hi _); intro gS h' tk' TS FS NS BS XS PS DS; (have FL := Mine.turn_nil TS FS); (have NL := Mine.turn_nilN TS NS); clear TS FS NS BS XS PS DS; (try simp only [Mine.dY_mod, Mine.dM_mod, Mine.dD_mod, Mine.tH_mod, Mine.tM_mod, Mine.tS_mod] at NL); (try dsimp only); (try k_sweep); (try k_fold))) | ((with_reducible show Mine.wpC _ _ (PySem.call (Value.ref 728) [Value.int _ _]) _ _ _); k_dflt (refine' lentry ?k1 ?k2 ?k3 ?k4 ?k5 ?k6 ?k7 ?k8 ?k9 ?k10 ?k11 ?vz0 ?vz1 ?_; (case k1 => k_asm); (case k2 => k_asm); (case k3 => k_asm); (case k4 => k_asm); (case k5 => k_asm); (case k6 => first | assumption | exact rfl); (case k7 => k_room); (case k8 => k_units); (case k9 => assumption); (case k10 => assumption); (case k11 => assumption); (case vz0 => first | assumption | omega | exact Mine.fm_lo _ | exact Mine.fm_hi _); (case vz1 => first | assumption | omega | exact Mine.fm_lo _ | exact Mine.fm_hi _); intro gS h' tk' TS FS NS BS XS PS DS; (have FL := Mine.turn_nil TS FS); (have NL := Mine.turn_nilN TS NS); clear TS FS NS BS XS PS DS; (try simp only [Mine.dY_mod, Mine.dM_mod, Mine.dD_mod, Mine.tH_mod, Mine.tM_mod, Mine.tS_mod] at NL); (try dsimp only))) | ((with_reducible show Mine.wpC _ _ (PySem.execs (_ :: _) _) _ _ _); (first | with_reducible refine Mine.gen_toksC (fun tk' => ?_) | skip); with_reducible refine Mine.wpC_execs_any ?_) | (k_unfold; (try dsimp only)) | (k_end; wrow_close) | walk1 | (dsimp only; walk1) | (leave1; walk_say "STEP leave1"; try dsimp only) | fail "no step")
end Mine
theorem PySem.Challenge.cw_iw0015_01_holds : PySem.Challenge.rw_iw0015_01.Holds :=
  Mine.main ⟨Mine.walk⟩
