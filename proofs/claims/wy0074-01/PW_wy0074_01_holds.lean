import PyProof.Rows.All
import Wide.All
import OpenK.AllK
import Wide.FinOn
import PySem.Challenge.RW_wy0074_01
set_option Elab.async false
namespace Mine
/- THE PLAIN LAW, over natural numbers -/
def nP : Nat := 3988292384
def nstp (c : Nat) : Nat := (c / 2) ^^^ (if c % 2 = 1 then nP else 0)
def ngen (c : Nat) : Nat := nstp (nstp (nstp (nstp (nstp (nstp (nstp (nstp c)))))))
def nrun (c o : Nat) : Nat := (c / 256) ^^^ ngen ((c ^^^ o) % 256)
def nchk (xs : List Nat) : Nat := (xs.foldl nrun 4294967295) ^^^ 4294967295

theorem xor_inj_right {a b o : Nat} (h : a ^^^ o = b ^^^ o) : a = b := by
  have h2 := congrArg (· ^^^ o) h
  simp only [Nat.xor_assoc, Nat.xor_self, Nat.xor_zero] at h2
  exact h2
theorem xor_nought {a b : Nat} (h : a ^^^ b = 0) : a = b := xor_inj_right (h.trans (Nat.xor_self b).symm)
theorem xor_cross (a b c d : Nat) : (a ^^^ b) ^^^ (c ^^^ d) = (a ^^^ c) ^^^ (b ^^^ d) := by
  rw [Nat.xor_assoc, Nat.xor_assoc, ← Nat.xor_assoc b c d, Nat.xor_comm b c, Nat.xor_assoc c b d]
theorem nstp_xor (a b : Nat) : nstp (a ^^^ b) = nstp a ^^^ nstp b := by
  have h1 : (a ^^^ b) / 2 = a / 2 ^^^ b / 2 := Nat.xor_div_two
  have h2 : (a ^^^ b) % 2 = (a % 2) ^^^ (b % 2) := by simpa using Nat.xor_mod_two_pow (a := a) (b := b) (n := 1)
  unfold nstp
  rw [h1, h2, xor_cross]
  congr 1
  rcases Nat.mod_two_eq_zero_or_one a with ha | ha <;> rcases Nat.mod_two_eq_zero_or_one b with hb | hb <;> rw [ha, hb] <;> decide
theorem nstp_even (x : Nat) : nstp (2 * x) = x := by
  unfold nstp
  rw [Nat.mul_mod_right, if_neg (by decide), Nat.xor_zero, Nat.mul_div_cancel_left _ (by decide)]
theorem nstp_lt {c : Nat} (h : c < 2 ^ 32) : nstp c < 2 ^ 32 := by
  refine Nat.xor_lt_two_pow ?_ ?_
  · omega
  · unfold nP; split <;> decide
theorem nstp_zero {c : Nat} (h : c < 2 ^ 32) (e : nstp c = 0) : c = 0 := by
  unfold nstp at e
  have e' := xor_nought e
  unfold nP at e'
  split at e' <;> omega
theorem ngen_xor (a b : Nat) : ngen (a ^^^ b) = ngen a ^^^ ngen b := by
  simp only [ngen, nstp_xor]
theorem ngen_mul (x : Nat) : ngen (256 * x) = x := by
  have e : 256 * x = 2 * (2 * (2 * (2 * (2 * (2 * (2 * (2 * x))))))) := by omega
  rw [e]
  simp only [ngen, nstp_even]
theorem ngen_lt {c : Nat} (h : c < 2 ^ 32) : ngen c < 2 ^ 32 :=
  nstp_lt (nstp_lt (nstp_lt (nstp_lt (nstp_lt (nstp_lt (nstp_lt (nstp_lt h)))))))
theorem ngen_zero {c : Nat} (h : c < 2 ^ 32) (e : ngen c = 0) : c = 0 := by
  have h1 := nstp_lt h
  have h2 := nstp_lt h1
  have h3 := nstp_lt h2
  have h4 := nstp_lt h3
  have h5 := nstp_lt h4
  have h6 := nstp_lt h5
  have h7 := nstp_lt h6
  exact nstp_zero h (nstp_zero h1 (nstp_zero h2 (nstp_zero h3 (nstp_zero h4 (nstp_zero h5 (nstp_zero h6 (nstp_zero h7 e)))))))
theorem ngen_inj {a b : Nat} (ha : a < 2 ^ 32) (hb : b < 2 ^ 32) (e : ngen a = ngen b) : a = b := by
  have h : ngen (a ^^^ b) = 0 := by rw [ngen_xor, e, Nat.xor_self]
  exact xor_nought (ngen_zero (Nat.xor_lt_two_pow ha hb) h)
/-- a number is its higher part joined with its lowest octet -/
theorem split8 (c : Nat) : c = (256 * (c / 256)) ^^^ (c % 256) := by
  have h := Nat.div_add_mod c 256
  have h2 := Nat.two_pow_add_eq_or_of_lt (i := 8) (b := c % 256) (Nat.mod_lt _ (by decide)) (c / 256)
  apply Nat.eq_of_testBit_eq
  intro i
  rw [Nat.testBit_xor]
  by_cases hi : i < 8
  · have a1 : (256 * (c / 256)).testBit i = false := by
      rw [show 256 = 2 ^ 8 by decide, Nat.testBit_two_pow_mul]
      simp; omega
    have a2 : (c % 256).testBit i = c.testBit i := by
      rw [show 256 = 2 ^ 8 by decide, Nat.testBit_mod_two_pow]
      simp [hi]
    rw [a1, a2]; simp
  · have a1 : (256 * (c / 256)).testBit i = c.testBit i := by
      rw [show 256 = 2 ^ 8 by decide, Nat.testBit_two_pow_mul, Nat.testBit_div_two_pow]
      simp
      rw [show i - 8 + 8 = i by omega, decide_eq_true (show 8 ≤ i by omega), Bool.true_and]
    have a2 : (c % 256).testBit i = false := by
      rw [show 256 = 2 ^ 8 by decide, Nat.testBit_mod_two_pow]
      simp [hi]
    rw [a1, a2]; simp
theorem ngen_split (c : Nat) : ngen c = (c / 256) ^^^ ngen (c % 256) := by
  have h := congrArg ngen (split8 c)
  rw [ngen_xor, ngen_mul] at h
  exact h
theorem nrun_eq {c o : Nat} (ho : o < 256) : nrun c o = ngen (c ^^^ o) := by
  rw [ngen_split (c ^^^ o), show 256 = 2 ^ 8 by decide, Nat.xor_div_two_pow, Nat.div_eq_of_lt (show o < 2 ^ 8 by omega), Nat.xor_zero]
  rfl
theorem nrun_lt {c o : Nat} (hc : c < 2 ^ 32) (ho : o < 256) : nrun c o < 2 ^ 32 := by
  rw [nrun_eq ho]
  exact ngen_lt (Nat.xor_lt_two_pow hc (by omega))
theorem nrun_inj {c d o : Nat} (hc : c < 2 ^ 32) (hd : d < 2 ^ 32) (ho : o < 256) (e : nrun c o = nrun d o) : c = d := by
  rw [nrun_eq ho, nrun_eq ho] at e
  exact xor_inj_right (ngen_inj (Nat.xor_lt_two_pow hc (by omega)) (Nat.xor_lt_two_pow hd (by omega)) e)
theorem nrun_inj_octet {c o p : Nat} (hc : c < 2 ^ 32) (ho : o < 256) (hp : p < 256) (e : nrun c o = nrun c p) : o = p := by
  rw [nrun_eq ho, nrun_eq hp] at e
  have h := ngen_inj (Nat.xor_lt_two_pow hc (by omega)) (Nat.xor_lt_two_pow hc (by omega)) e
  rw [Nat.xor_comm c o, Nat.xor_comm c p] at h
  exact xor_inj_right h
theorem fold_lt : ∀ (xs : List Nat) (c : Nat), c < 2 ^ 32 → (∀ x ∈ xs, x < 256) → xs.foldl nrun c < 2 ^ 32
  | [], _, hc, _ => hc
  | x :: r, _, hc, h => fold_lt r _ (nrun_lt hc (h x (.head _))) fun y hy => h y (.tail _ hy)
theorem fold_inj : ∀ (xs : List Nat) (c d : Nat), c < 2 ^ 32 → d < 2 ^ 32 → (∀ x ∈ xs, x < 256) → xs.foldl nrun c = xs.foldl nrun d → c = d
  | [], _, _, _, _, _, e => e
  | x :: r, _, _, hc, hd, h, e =>
    nrun_inj hc hd (h x (.head _)) (fold_inj r _ _ (nrun_lt hc (h x (.head _))) (nrun_lt hd (h x (.head _))) (fun y hy => h y (.tail _ hy)) e)
/-- one octet another: another check -/
theorem nchk_other {p q : List Nat} {x y : Nat} (hp : ∀ z ∈ p, z < 256) (hq : ∀ z ∈ q, z < 256) (hx : x < 256) (hy : y < 256) (e : nchk (p ++ [y] ++ q) = nchk (p ++ [x] ++ q)) : y = x := by
  have e2 := xor_inj_right e
  simp only [List.foldl_append, List.foldl_cons, List.foldl_nil] at e2
  have hs := fold_lt p 4294967295 (by decide) hp
  exact nrun_inj_octet hs hy hx (fold_inj q _ _ (nrun_lt hs hy) (nrun_lt hs hx) hq e2)
/-- the check's own four octets behind: always the same -/
theorem nchk_own {xs : List Nat} (h : ∀ x ∈ xs, x < 256) : nchk (xs ++ [nchk xs % 256, nchk xs / 256 % 256, nchk xs / 65536 % 256, nchk xs / 16777216]) = 558161692 := by
  unfold nchk
  generalize hs : xs.foldl nrun 4294967295 = s
  have hlt : s < 2 ^ 32 := hs ▸ fold_lt xs _ (by decide) h
  have hc : (s ^^^ 4294967295) < 2 ^ 32 := Nat.xor_lt_two_pow hlt (by decide)
  rw [List.foldl_append, hs]
  simp only [List.foldl_cons, List.foldl_nil]
  generalize hk : s ^^^ 4294967295 = k at hc
  have b0 : k % 256 < 256 := Nat.mod_lt _ (by decide)
  have b1 : k / 256 % 256 < 256 := Nat.mod_lt _ (by decide)
  have b2 : k / 65536 % 256 < 256 := Nat.mod_lt _ (by decide)
  have b3 : k / 16777216 < 256 := by omega
  have e1 := split8 k
  have e2 := split8 (k / 256)
  have e3 := split8 (k / 65536)
  rw [show k / 256 / 256 = k / 65536 by omega] at e2
  rw [show k / 65536 / 256 = k / 16777216 by omega] at e3
  have hA : s ^^^ k = 4294967295 := by rw [← hk, ← Nat.xor_assoc, Nat.xor_self, Nat.zero_xor]
  -- s ^^^ b0 = 4294967295 ^^^ 256 * (k / 256)
  have s0 : s ^^^ k % 256 = 4294967295 ^^^ 256 * (k / 256) := by
    apply xor_inj_right (o := 256 * (k / 256))
    rw [Nat.xor_assoc, Nat.xor_comm (k % 256), ← e1, hA, Nat.xor_assoc, Nat.xor_self, Nat.xor_zero]
  have step : ∀ (t b q : Nat), b < 256 → ∀ r, r = 256 * q ^^^ b → nrun (t ^^^ r) b = ngen t ^^^ q := by
    intro t b q hb r hr
    rw [nrun_eq hb, hr, Nat.xor_assoc, Nat.xor_assoc, Nat.xor_self, Nat.xor_zero, ngen_xor, ngen_mul]
  rw [nrun_eq b0, s0, ngen_xor, ngen_mul, step _ _ _ b1 _ e2, step _ _ _ b2 _ e3, nrun_eq b3, Nat.xor_assoc, Nat.xor_self, Nat.xor_zero]
  decide +kernel
theorem nchk_nine : nchk [49, 50, 51, 52, 53, 54, 55, 56, 57] = 3421780262 := by decide +kernel
theorem nchk_nil : nchk [] = 0 := by decide
end Mine
open PySem PySem.W PyProof.Rows
namespace Mine
set_option maxRecDepth 100000 in
set_option maxHeartbeats 8000000 in
open_top hd for PySem.Challenge.rw_wy0074_01
/- THE WALK of the two defs, each once -/
theorem gen_ex : ∃ g : Int → Int, ∀ c, List.foldl (fun a' (_ : Int) => if ¬Builtin.bitAnd a' 1 = 0 then Builtin.bitXor (a'.fdiv (2 ^ Int.toNat 1)) 3988292384 else a'.fdiv (2 ^ Int.toNat 1)) c (rangeKs 0 (8 - 0 : Int).toNat) = g c := ⟨_, fun _ => rfl⟩
noncomputable def gen : Int → Int := Classical.choose gen_ex
theorem gen_fold (c : Int) : List.foldl (fun a' (_ : Int) => if ¬Builtin.bitAnd a' 1 = 0 then Builtin.bitXor (a'.fdiv (2 ^ Int.toNat 1)) 3988292384 else a'.fdiv (2 ^ Int.toNat 1)) c (rangeKs 0 (8 - 0 : Int).toNat) = gen c := Classical.choose_spec gen_ex c
inductive Run : List Int → Int → Prop
  | nil : Run [] (1 * 2 ^ Int.toNat 32 - 1)
  | snoc {pre : List Int} {c n : Int} (h : Run pre c) : Run (pre ++ [n]) (Builtin.bitXor (c.fdiv (2 ^ Int.toNat 8)) (gen (Builtin.bitAnd (Builtin.bitXor c n) 255)))
theorem chk_ex : ∃ g : List Int → Int, ∀ xs, g xs = Builtin.bitXor (List.foldl (fun a' n' => Builtin.bitXor (a'.fdiv (2 ^ Int.toNat 8)) (gen (Builtin.bitAnd (Builtin.bitXor a' n') 255))) (1 * 2 ^ Int.toNat 32 - 1) xs) (1 * 2 ^ Int.toNat 32 - 1) := ⟨_, fun _ => rfl⟩
noncomputable def chk : List Int → Int := Classical.choose chk_ex
theorem chk_eq (xs : List Int) : chk xs = Builtin.bitXor (List.foldl (fun a' n' => Builtin.bitXor (a'.fdiv (2 ^ Int.toNat 8)) (gen (Builtin.bitAnd (Builtin.bitXor a' n') 255))) (1 * 2 ^ Int.toNat 32 - 1) xs) (1 * 2 ^ Int.toNat 32 - 1) := Classical.choose_spec chk_ex xs
theorem run_fold {xs : List Int} {c : Int} (h : Run xs c) : c = List.foldl (fun a' n' => Builtin.bitXor (a'.fdiv (2 ^ Int.toNat 8)) (gen (Builtin.bitAnd (Builtin.bitXor a' n') 255))) (1 * 2 ^ Int.toNat 32 - 1) xs := by
  induction h with
  | nil => rfl
  | snoc h ih => rw [List.foldl_append, ← ih]; rfl
theorem run_chk {xs : List Int} {c : Int} (h : Run xs c) : Builtin.bitXor c (1 * 2 ^ Int.toNat 32 - 1) = chk xs := by
  rw [chk_eq, ← run_fold h]

set_option maxRecDepth 100000 in
set_option maxHeartbeats 1500000 in
theorem gen_call (w : World) (mean : ExcName → Option Value) (mg mb : Str → Option Value) (news : List (Addr × Obj)) (c : Int) (tc : Tok) :
  ∀ (dp un : Nat) (gd : Option (List Code)) (cn : Str) (cs : Scope) (a : Addr) (ccd : Value) (cl : List (Str × Addr)) (outer : List Env) (A₀ : Around) (base h₀ : Heap) (L : Addr) (m : Str → Option Value) (s : Shared) (Q E : Value → Shared → Prop),
    Below A₀ base outer h₀ → Fr h₀ L s.heap m → (hd.heap_39 w.params).In h₀ → News h₀ L s.heap news → Top hd.view_39 (looseW hd.view_39 []) mean mg mb h₀ → cs.kind = .function →
      dp + 1 < recursionLimit → un + 8 < cLine → 
      (∀ (t : Tok) (h' : Heap) (tk' : Nat), Fr h₀ L h' m → News h₀ L h' news → Q (.int (gen c) t) { s with heap := h', toks := tk' }) →
      wpAny (model PySem.Challenge.rw_wy0074_01.row.prog w) (ktrTop dp un gd cn cs L a ccd cl outer) (PySem.call (.ref 21) [.int c tc]) Q E s := by
  k_with "exec For Name Call cons nil" => (k_of "j" => kpr_for)
  k_with "pyIter ref" => (k_of "j" => kpr_short)
  k_with "tree" => first | with_reducible exact gen_fold _
  k_fill
  intros
  rename_i hret
  refine wpAny_call ?_
  k_dflt cell_enter
  k_steps
  all_goals cb_end hret

set_option maxRecDepth 100000 in
set_option maxHeartbeats 1500000 in
theorem chk_call0 (w : World) (mean : ExcName → Option Value) (mg mb : Str → Option Value) (news : List (Addr × Obj)) (l : Addr) (vs : List Value) (ns : List Int) (nn : Nat) :
  ∀ (dp un : Nat) (gd : Option (List Code)) (cn : Str) (cs : Scope) (a : Addr) (ccd : Value) (cl : List (Str × Addr)) (outer : List Env) (A₀ : Around) (base h₀ : Heap) (L : Addr) (m : Str → Option Value) (s : Shared) (Q E : Value → Shared → Prop),
    Below A₀ base outer h₀ → Fr h₀ L s.heap m → (hd.heap_39 w.params).In h₀ → News h₀ L s.heap ((l, listOf vs.toArray nn) :: news) → Top hd.view_39 (looseW hd.view_39 []) mean mg mb h₀ → cs.kind = .function →
      IntsAre vs ns → ns.length < 2 ^ 62 →
      dp + 3 < recursionLimit → un + 24 < cLine → 
      (∀ (t : Tok) (h' : Heap) (tk' : Nat), Fr h₀ L h' m → News h₀ L h' ((l, listOf vs.toArray nn) :: news) → Q (.int (chk ns) t) { s with heap := h', toks := tk' }) →
      wpAny (model PySem.Challenge.rw_wy0074_01.row.prog w) (ktrTop dp un gd cn cs L a ccd cl outer) (PySem.call (.ref 28) [.ref l]) Q E s := by
  k_with "pyIter ref" => (k_of "octet" => k_state (fun pre c => Run pre c) "check")
  k_with "state" => first | exact Run.nil | exact Run.snoc (by assumption)
  k_with "call ref" =>
    (with_reducible show wpAny _ _ (PySem.call (Value.ref 21) [Value.int _ _]) _ _ _)
    refine' gen_call _ _ _ _ _ _ _ _ _ _ _ _ _ _ _ _ _ _ _ _ _ _ _ _ ?k1 ?k2 ?k3 ?k4 ?k5 ?kK ?kd ?ku ?kR
    (case k1 => k_asm); (case k2 => k_asm); (case k3 => k_asm); (case k4 => k_asm); (case k5 => k_asm)
    (case kK => first | exact rfl | assumption); (case kd => ktr_room); (case ku => ktr_units)
    intro t9 h9 tk9 F9 N9
    (try dsimp only)
    (try k_fold)
  k_fill
  intros
  rename_i hret
  refine wpAny_call ?_
  k_dflt cell_enter
  k_steps
  all_goals (refine' cb_retI hret ?e1 ?e2 ?e3)
  case e2 => k_asm
  case e3 => k_asm
  case e1 => exact run_chk (by assumption)
theorem chk_call {w : World} {mean : ExcName → Option Value} {mg mb : Str → Option Value} {news : List (Addr × Obj)} {l : Addr} {vs : List Value} {ns : List Int} {nn : Nat}
  {dp un : Nat} {gd : Option (List Code)} {cn : Str} {cs : Scope} {a : Addr} {ccd : Value} {cl : List (Str × Addr)} {outer : List Env} {A₀ : Around} {base h₀ : Heap} {L : Addr} {m : Str → Option Value} {s : Shared} {Q E : Value → Shared → Prop}
    (hB : Below A₀ base outer h₀) (hF : Fr h₀ L s.heap m) (hX : (hd.heap_39 w.params).In h₀) (hN : News h₀ L s.heap news) (hT : Top hd.view_39 (looseW hd.view_39 []) mean mg mb h₀) (hk : cs.kind = .function)
    (hm : (l, listOf vs.toArray nn) ∈ news) (hi : IntsAre vs ns) (hl : ns.length < 2 ^ 62)
    (hdp : dp + 3 < recursionLimit) (hu : un + 24 < cLine)
    (h : ∀ (t : Tok) (h' : Heap) (tk' : Nat), Fr h₀ L h' m → News h₀ L h' news → Q (.int (chk ns) t) { s with heap := h', toks := tk' }) :
    wpAny (model PySem.Challenge.rw_wy0074_01.row.prog w) (ktrTop dp un gd cn cs L a ccd cl outer) (PySem.call (.ref 28) [.ref l]) Q E s :=
  chk_call0 w mean mg mb news l vs ns nn dp un gd cn cs a ccd cl outer A₀ base h₀ L m s Q E hB hF hX
    (fun p hp => by (rcases List.mem_cons.mp hp with rfl | hp); exact hN _ hm; exact hN _ hp) hT hk hi hl hdp hu
    (fun t h' tk' F N => h t h' tk' F (fun p hp => N p (.tail _ hp)))
/- THE BRIDGE -/
theorem xor_add : ∀ n a b : Nat, a < n → (a ^^^ b) + 2 * (a &&& b) = a + b
  | 0, _, _, h => absurd h (Nat.not_lt_zero _)
  | n + 1, a, b, h => by
    have x1 : (a ^^^ b) / 2 = a / 2 ^^^ b / 2 := Nat.xor_div_two
    have x2 : (a ^^^ b) % 2 = (a % 2) ^^^ (b % 2) := by simpa using Nat.xor_mod_two_pow (a := a) (b := b) (n := 1)
    have y1 : (a &&& b) / 2 = a / 2 &&& b / 2 := Nat.and_div_two
    have y2 : (a &&& b) % 2 = (a % 2) &&& (b % 2) := by simpa using Nat.and_mod_two_pow (a := a) (b := b) (n := 1)
    by_cases h0 : a = 0
    · subst h0; simp
    · have ih := xor_add n (a / 2) (b / 2) (by omega)
      rw [← x1, ← y1] at ih
      rcases Nat.mod_two_eq_zero_or_one a with ha | ha <;> rcases Nat.mod_two_eq_zero_or_one b with hb | hb <;> rw [ha, hb] at x2 y2 <;> simp only [show (0 ^^^ 0 : Nat) = 0 from rfl, show (0 ^^^ 1 : Nat) = 1 from rfl, show (1 ^^^ 0 : Nat) = 1 from rfl, show (1 ^^^ 1 : Nat) = 0 from rfl, show (0 &&& 0 : Nat) = 0 from rfl, show (0 &&& 1 : Nat) = 0 from rfl, show (1 &&& 0 : Nat) = 0 from rfl, show (1 &&& 1 : Nat) = 1 from rfl] at x2 y2 <;> omega
theorem bx (a b : Nat) : Builtin.bitXor (a : Int) (b : Int) = ((a ^^^ b : Nat) : Int) := by
  have h := xor_add (a + 1) a b (by omega)
  rw [bitXor_and, bitAnd_pp (by omega) (by omega)]
  simp only [Int.toNat_natCast]
  omega
theorem bx_lit (a b : Nat) (x : Int) (e : x = (b : Int)) : Builtin.bitXor (a : Int) x = ((a ^^^ b : Nat) : Int) := by rw [e, bx]
theorem fd (a b : Nat) : (a : Int).fdiv (b : Int) = ((a / b : Nat) : Int) := by
  rw [Int.fdiv_eq_ediv_of_nonneg _ (by omega)]; rfl
theorem fd_lit (a b : Nat) (x : Int) (e : x = (b : Int)) : (a : Int).fdiv x = ((a / b : Nat) : Int) := by rw [e, fd]
theorem stp_nat (c : Nat) : (if ¬Builtin.bitAnd (c : Int) 1 = 0 then Builtin.bitXor ((c : Int).fdiv (2 ^ Int.toNat 1)) 3988292384 else (c : Int).fdiv (2 ^ Int.toNat 1)) = ((nstp c : Nat) : Int) := by
  rw [bitAnd_m1, fd_lit c 2 _ (by decide), bx_lit (c / 2) 3988292384 _ (by decide)]
  unfold nstp nP
  by_cases h : c % 2 = 1
  · rw [if_pos (by omega), if_pos h]
  · rw [if_neg (by omega), if_neg h, Nat.xor_zero]
theorem gen_nat (c : Nat) : gen (c : Int) = ((ngen c : Nat) : Int) := by
  rw [← gen_fold, show rangeKs 0 (8 - 0 : Int).toNat = [0, 1, 2, 3, 4, 5, 6, 7] from by decide]
  simp only [List.foldl_cons, List.foldl_nil, stp_nat]
  rfl
theorem run_nat (c o : Nat) : Builtin.bitXor ((c : Int).fdiv (2 ^ Int.toNat 8)) (gen (Builtin.bitAnd (Builtin.bitXor (c : Int) (o : Int)) 255)) = ((nrun c o : Nat) : Int) := by
  have e : (((c ^^^ o : Nat) : Int) % 256) = (((c ^^^ o) % 256 : Nat) : Int) := by omega
  rw [fd_lit c 256 _ (by decide), bx, bitAnd_m8, e, gen_nat, bx]
  rfl
theorem fold_nat : ∀ (xs : List Nat) (c : Nat), List.foldl (fun a' n' => Builtin.bitXor (a'.fdiv (2 ^ Int.toNat 8)) (gen (Builtin.bitAnd (Builtin.bitXor a' n') 255))) (c : Int) (xs.map fun (n : Nat) => (n : Int)) = ((xs.foldl nrun c : Nat) : Int)
  | [], _ => rfl
  | x :: r, c => by
    rw [List.map_cons, List.foldl_cons, run_nat]
    exact fold_nat r _
theorem chk_nat (xs : List Nat) : chk (xs.map fun (n : Nat) => (n : Int)) = ((nchk xs : Nat) : Int) := by
  rw [chk_eq, show (1 * 2 ^ Int.toNat 32 - 1 : Int) = ((4294967295 : Nat) : Int) from by decide, fold_nat, bx]
  rfl
theorem E_nine : chk [49, 50, 51, 52, 53, 54, 55, 56, 57] = 3421780262 := (chk_nat [49, 50, 51, 52, 53, 54, 55, 56, 57]).trans (by rw [nchk_nine]; rfl)
theorem E_nil : chk [] = 0 := (chk_nat []).trans (by rw [nchk_nil]; rfl)
theorem to_nat (x m : Int) (h : 0 < m) : ∃ n : Nat, x.fmod m = (n : Int) :=
  ⟨(x.fmod m).toNat, (Int.toNat_of_nonneg (Int.fmod_nonneg_of_pos x h)).symm⟩
theorem E_xor (kN : Int) : gen (Builtin.bitXor (kN.fmod (1 * 2 ^ Int.toNat 32)) (((kN * 2654435761).fdiv 7).fmod (1 * 2 ^ Int.toNat 32))) =
    Builtin.bitXor (gen (kN.fmod (1 * 2 ^ Int.toNat 32))) (gen (((kN * 2654435761).fdiv 7).fmod (1 * 2 ^ Int.toNat 32))) := by
  obtain ⟨a, ha⟩ := to_nat kN (1 * 2 ^ Int.toNat 32) (by decide)
  obtain ⟨b, hb⟩ := to_nat ((kN * 2654435761).fdiv 7) (1 * 2 ^ Int.toNat 32) (by decide)
  rw [ha, hb, bx, gen_nat, gen_nat, gen_nat, bx, ngen_xor]
theorem E_low (kN : Int) : gen (kN.fmod (1 * 2 ^ Int.toNat 32)) = Builtin.bitXor ((kN.fmod (1 * 2 ^ Int.toNat 32)).fdiv (2 ^ Int.toNat 8)) (gen (Builtin.bitAnd (kN.fmod (1 * 2 ^ Int.toNat 32)) 255)) := by
  obtain ⟨a, ha⟩ := to_nat kN (1 * 2 ^ Int.toNat 32) (by decide)
  have e : ((a : Int) % 256) = ((a % 256 : Nat) : Int) := by omega
  rw [ha, fd_lit a 256 _ (by decide), bitAnd_m8, e, gen_nat, gen_nat, bx, ← ngen_split]
def octs (l : List Int) : List Nat := l.map fun k => (k.fmod 256).toNat
theorem octs_cast (l : List Int) : List.map (fun k' => k'.fmod 256) l = (octs l).map fun (n : Nat) => (n : Int) := by
  unfold octs
  rw [List.map_map]
  refine List.map_congr_left fun k _ => ?_
  exact (Int.toNat_of_nonneg (Int.fmod_nonneg_of_pos k (by decide))).symm
theorem octs_lt (l : List Int) : ∀ x ∈ octs l, x < 256 := by
  intro x hx
  obtain ⟨k, _, rfl⟩ := List.mem_map.mp hx
  have h1 := Int.fmod_nonneg_of_pos k (show (0 : Int) < 256 by decide)
  have h2 := Int.fmod_lt_of_pos k (show (0 : Int) < 256 by decide)
  show (k.fmod 256).toNat < 256
  omega
theorem E_own (l : List Int) : chk (List.map (fun k' => k'.fmod 256) l ++
    [Builtin.bitAnd (chk (List.map (fun k' => k'.fmod 256) l)) 255, Builtin.bitAnd ((chk (List.map (fun k' => k'.fmod 256) l)).fdiv (2 ^ Int.toNat 8)) 255,
      Builtin.bitAnd ((chk (List.map (fun k' => k'.fmod 256) l)).fdiv (2 ^ Int.toNat 16)) 255, (chk (List.map (fun k' => k'.fmod 256) l)).fdiv (2 ^ Int.toNat 24)]) = 558161692 := by
  rw [octs_cast, chk_nat]
  generalize hc : nchk (octs l) = c
  have h := nchk_own (octs_lt l)
  rw [hc] at h
  rw [fd_lit c 256 _ (by decide), fd_lit c 65536 _ (by decide), fd_lit c 16777216 _ (by decide), bitAnd_m8, bitAnd_m8, bitAnd_m8]
  have e : (octs l).map (fun (n : Nat) => (n : Int)) ++ [(c : Int) % 256, ((c / 256 : Nat) : Int) % 256, ((c / 65536 : Nat) : Int) % 256, ((c / 16777216 : Nat) : Int)] =
      (octs l ++ [c % 256, c / 256 % 256, c / 65536 % 256, c / 16777216]).map fun (n : Nat) => (n : Int) := by
    rw [List.map_append]
    rfl
  rw [e, chk_nat, h]
  rfl
theorem E_other (l : List Int) (k : Int) (h0 : 0 ≤ k) (h1 : k < (l.length : Int)) :
    ¬ chk (List.take k.toNat (List.map (fun k' => k'.fmod 256) l) ++ [((List.map (fun k' => k'.fmod 256) l).getD k.toNat 0 + 1).fmod 256] ++
      List.drop (k + 1).toNat (List.map (fun k' => k'.fmod 256) l)) = chk (List.map (fun k' => k'.fmod 256) l) := by
  have hl : (octs l).length = l.length := List.length_map ..
  have hk : k.toNat < (octs l).length := by omega
  rw [octs_cast, show (k + 1).toNat = k.toNat + 1 by omega]
  generalize k.toNat = j at hk
  have hlt := octs_lt l
  generalize octs l = xs at hk hlt
  have hx : xs = xs.take j ++ [xs[j]] ++ xs.drop (j + 1) := by simp
  have hxj : xs[j] < 256 := hlt _ (List.getElem_mem hk)
  have eg : (xs.map fun (n : Nat) => (n : Int)).getD j 0 = (xs[j] : Int) := by
    simp [List.getD_eq_getElem?_getD, hk]
  have ey : (((xs[j] : Nat) : Int) + 1).fmod 256 = (((xs[j] + 1) % 256 : Nat) : Int) := by
    rw [Int.fmod_eq_emod_of_nonneg _ (by decide)]
    omega
  have el : List.take j (xs.map fun (n : Nat) => (n : Int)) ++ [(((xs[j] + 1) % 256 : Nat) : Int)] ++ List.drop (j + 1) (xs.map fun (n : Nat) => (n : Int)) =
      (xs.take j ++ [(xs[j] + 1) % 256] ++ xs.drop (j + 1)).map fun (n : Nat) => (n : Int) := by
    simp [List.map_append, List.map_take, List.map_drop]
  rw [eg, ey, el, chk_nat, chk_nat]
  intro e
  have e' : nchk (xs.take j ++ [(xs[j] + 1) % 256] ++ xs.drop (j + 1)) = nchk (xs.take j ++ [xs[j]] ++ xs.drop (j + 1)) := by
    rw [← hx]
    exact Int.ofNat.inj e
  have := nchk_other (fun z hz => hlt z (List.mem_of_mem_take hz)) (fun z hz => hlt z (List.mem_of_mem_drop hz)) hxj (Nat.mod_lt _ (by decide)) e'
  omega
end Mine
open Mine
/- THE WALK of the law -/
local macro_rules | `(tactic| walk_at "call ref") => `(tactic| (
  k_here
  (with_reducible show wpAny _ _ (PySem.call (Value.ref 21) [Value.int _ _]) _ _ _)
  (k_dflt refine' gen_call _ _ _ _ _ _ _ _ _ _ _ _ _ _ _ _ _ _ _ _ _ _ _ _ ?k1 ?k2 ?k3 ?k4 ?k5 ?kK ?kd ?ku ?_)
  (case k1 => k_dflt k_asm); (case k2 => k_dflt k_asm); (case k3 => k_dflt k_asm); (case k4 => k_dflt k_asm); (case k5 => k_dflt k_asm)
  (case kK => first | exact rfl | assumption); (case kd => ktr_room); (case ku => ktr_units)
  intro t9 h9 tk9 F9 N9; (try dsimp only); (try k_fold)))
local macro_rules | `(tactic| walk_at "call ref") => `(tactic| (
  k_here
  (with_reducible show wpAny _ _ (PySem.call (Value.ref 28) [Value.ref _]) _ _ _)
  (k_dflt refine' chk_call ?k1 ?k2 ?k3 ?k4 ?k5 ?kK ?km ?ki ?kl ?kd ?ku ?_)
  (case k1 => k_dflt k_asm); (case k2 => k_dflt k_asm); (case k3 => k_dflt k_asm); (case k4 => k_dflt k_asm); (case k5 => k_dflt k_asm)
  (case km => k_dflt k_mem); (case ki => l_ints)
  (case kl => ((simp only [List.length_append, List.length_take, List.length_drop, List.length_map, List.length_cons, List.length_nil]); omega))
  (case kK => first | exact rfl | assumption); (case kd => ktr_room); (case ku => ktr_units)
  intro t9 h9 tk9 F9 N9; (try dsimp only); (try k_fold)))
local macro_rules | `(tactic| walk_at "binaryOp LShift int int") => `(tactic| (k_here; (with_reducible refine lshift_int_small (by decide) (by decide) (by decide) ?_)))
local macro_rules | `(tactic| walk_at "binaryOp RShift int int") => `(tactic| (k_here; (with_reducible refine rshift_int (by decide) ?_)))
local macro_rules | `(tactic| walk_at "subscriptTail Name Slice ref ref") => `(tactic| (
  k_here
  (with_reducible show wpAny _ _ (subscriptTail _ (PySem.Expr.Slice _ _ none _) (Value.ref _) (Value.ref _)) _ _ _)
  k_dflt (refine' kmk_slice_ints ?F ?N ?l ?p ?q ?i ?m ?c ?_ ?s ?t ?z)
  (case F => k_dflt k_asm); (case N => k_dflt k_asm); (case l => k_dflt kmk_list); (case p => k_dflt kmk_part); (case q => k_dflt kmk_part)
  (case i => k_dflt l_ints)
  (case m => k_dflt (first | exact kmk_from (by l_ints) (by omega) | exact kmk_upto (by l_ints) (by omega)))
  (case c => k_dflt kmk_len); (case s => with_unfolding_all rfl); (case t => k_dflt kmk_pure); (case z => k_dflt kmk_size)
  intro D' ws' h' F' N' l1 hI' hC' hL'
  (try simp only [Int.reduceNeg, Int.neg_neg, Int.reduceToNat] at hI' hC' hL')
  (try k_lt l1); (try k_sweep)))
set_option maxRecDepth 100000 in
set_option maxHeartbeats 8000000 in
theorem PySem.Challenge.cw_wy0074_01_holds : PySem.Challenge.rw_wy0074_01.Holds := by
  k_with_none
  k_with "pyIter ref" => (k_of "number" => k_search (fun _ => True))
  k_with "end" => exact absurd (by with_reducible assumption) (E_other _ _ (by omega) (by simp only [List.length_map] at *; omega))
  k_with "end" => exact absurd (E_own _) (by with_reducible assumption)
  k_with "end" => exact absurd (E_low _) (by with_reducible assumption)
  k_with "end" => exact absurd (E_xor _) (by with_reducible assumption)
  k_with "end" => exact absurd E_nil (by with_reducible assumption)
  k_with "end" => exact absurd E_nine (by with_reducible assumption)
  refine hd ?_
  w_strict k_go
