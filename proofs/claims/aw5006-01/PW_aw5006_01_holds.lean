import PyProof.Rows.All
import Wide.All
import OpenK.AllK
import Wide.FinOn
import PySem.Challenge.RW_aw5006_01
open PySem PySem.W PySem.W.X PyProof.Rows
set_option Elab.async false
namespace Mine
local macro_rules | `(tactic| walk_at "kstep") => `(tactic| (first | (k_unfold; (try dsimp only)) | (k_end; wrow_close) | walk1 | (dsimp only; walk1) | (leave1; walk_say "STEP leave1"; try dsimp only) | fail "no step"))
/-! Num1 -/
def dg (d : Nat) : Nat := if d < 10 then 48 + d else 87 + d
def tx (l : List Nat) : PySem.Str := ⟨(l.map dg).toArray⟩
def one (d : Nat) : PySem.Str := tx [d]
noncomputable def bd (b : Nat) : Nat → Nat → List Nat
  | 0, _ => []
  | k + 1, n => bd b k (n / b) ++ [n % b]
noncomputable def nd (b n : Nat) : Nat := if h : 2 ≤ b ∧ 0 < n then nd b (n / b) + 1 else 0
termination_by n
decreasing_by exact Nat.div_lt_self h.2 h.1
noncomputable def ds (b n : Nat) : List Nat := bd b (nd b n) n
theorem nd_zero (b : Nat) : nd b 0 = 0 := by rw [nd]; simp
theorem nd_pos {b n : Nat} (hb : 2 ≤ b) (hn : 0 < n) : nd b n = nd b (n / b) + 1 := by
  rw [nd]; simp [hb, hn]
theorem ds_zero (b : Nat) : ds b 0 = [] := by unfold ds; rw [nd_zero]; rfl
theorem ds_pos {b n : Nat} (hb : 2 ≤ b) (hn : 0 < n) : ds b n = ds b (n / b) ++ [n % b] := by
  unfold ds; rw [nd_pos hb hn]; rfl
theorem bd_length (b : Nat) : ∀ k n, (bd b k n).length = k
  | 0, _ => rfl
  | k + 1, n => by simp [bd, bd_length b k]
theorem nd_lt {b : Nat} (hb : 2 ≤ b) : ∀ n, n < b ^ nd b n := by
  intro n
  induction n using Nat.strongRecOn with
  | _ n ih =>
    by_cases h : n = 0
    · subst h; rw [nd_zero]; simp
    · have h' : 0 < n := Nat.pos_of_ne_zero h
      rw [nd_pos hb h', Nat.pow_succ]
      have := ih (n / b) (Nat.div_lt_self h' hb)
      exact (Nat.div_lt_iff_lt_mul (by omega)).mp this
theorem nd_le {b : Nat} (hb : 2 ≤ b) : ∀ {k n : Nat}, n < b ^ k → nd b n ≤ k := by
  intro k
  induction k with
  | zero => intro n h; have : n = 0 := by simpa using h
            subst this; rw [nd_zero]; exact Nat.le_refl _
  | succ k ih =>
    intro n h
    by_cases h0 : n = 0
    · subst h0; rw [nd_zero]; exact Nat.zero_le _
    · rw [nd_pos hb (Nat.pos_of_ne_zero h0)]
      have : n / b < b ^ k := by
        rw [Nat.div_lt_iff_lt_mul (by omega)]
        rwa [Nat.pow_succ] at h
      have := ih this
      omega
theorem tx_append (a b : List Nat) : tx (a ++ b) = tx a ++ tx b := by
  show (⟨_⟩ : PySem.Str) = ⟨_⟩
  simp [tx]
theorem tx_length (l : List Nat) : (tx l).length = l.length := by
  simp [tx, PySem.Str.length]
theorem item_std : ∀ d : Nat, d < 36 → Txt.item (PySem.Str.ofString "0123456789abcdefghijklmnopqrstuvwxyz") (d : Int) = one d := by decide +kernel
theorem glued_ones (L : List Nat) : Txt.join (PySem.Str.ofString "") (L.map one) = tx L := by
  have e : PySem.Str.ofString "" = PySem.Str.empty := by decide
  rw [e]
  have go : ∀ (M : List Nat) (acc : Array Nat), (M.map one).foldl (fun acc p => acc ++ PySem.Str.empty.cps ++ p.cps) acc = acc ++ (M.map dg).toArray := by
    intro M
    induction M with
    | nil => intro acc; simp
    | cons d M ih =>
      intro acc
      simp only [List.map_cons, List.foldl_cons]
      rw [ih]
      simp [one, tx, PySem.Str.empty]
  cases L with
  | nil => rfl
  | cons d M =>
    show (⟨((one d :: M.map one).drop 1).foldl _ _⟩ : PySem.Str) = _
    simp only [List.drop_succ_cons, List.drop_zero]
    rw [go]
    simp [one, tx]
theorem joinOk_ones (L : List Nat) (h : L.length ≤ 2000) : JoinOk (PySem.Str.ofString "") (L.map one) = true := by
  unfold JoinOk
  rw [Bool.not_eq_true']
  show decide (_ > sizeLine) = false
  refine decide_eq_false ?_
  rw [StrLaws.joinTotal, sizeLine_eq]
  have e : (PySem.Str.ofString "").length = 0 := by decide
  rw [e]
  have : ((L.map one).map (·.length)).sum = L.length := by
    clear h
    induction L with
    | nil => rfl
    | cons d L ih =>
      simp only [List.map_cons, List.sum_cons, List.length_cons]
      rw [ih]
      simp [one, tx_length]
      omega
  rw [this]
  simp
  omega
theorem digit_dg : ∀ d : Nat, d < 10 → (Nat.digitChar d).toNat = dg d := by decide
theorem toDigits_ds (m : Nat) (hm : 0 < m) : (Nat.toDigits 10 m).map Char.toNat = (ds 10 m).map dg := by
  induction m using Nat.strongRecOn with
  | _ m ih =>
    rw [ds_pos (by decide) hm]
    by_cases h : m < 10
    · rw [Nat.toDigits_of_lt_base h, show m / 10 = 0 by omega, ds_zero, Nat.mod_eq_of_lt h]
      simp [digit_dg m h]
    · have hm10 : m % 10 < 10 := Nat.mod_lt m (by decide)
      have t : Nat.toDigits 10 (m / 10) ++ Nat.toDigits 10 (m % 10) = Nat.toDigits 10 (10 * (m / 10) + m % 10) := Nat.toDigits_append_toDigits (by decide) (by omega) hm10
      rw [Nat.div_add_mod] at t
      rw [← t, List.map_append, Nat.toDigits_of_lt_base hm10, ih (m / 10) (by omega) (by omega)]
      simp [digit_dg (m % 10) hm10]
theorem str_ds (m : Nat) (hm : 0 < m) : PySem.Str.ofString (toString ((m : Nat) : Int)) = tx (ds 10 m) := by
  have h := KIN.signs_num m
  rw [toDigits_ds m hm] at h
  have e : ∀ x : PySem.Str, x = ⟨x.cps.toList.toArray⟩ := fun x => by cases x; simp
  rw [e (PySem.Str.ofString _), h]
  rfl
noncomputable def nums (b n : Nat) : PySem.Str := if n = 0 then tx [0] else tx (ds b n)
theorem nums_len {b n : Nat} (hb : 2 ≤ b) (hn : n < 2 ^ 1900) : (nums b n).length ≤ 1900 := by
  unfold nums
  split
  · rw [tx_length]; decide
  · rw [tx_length]
    show (bd b (nd b n) n).length ≤ _
    rw [bd_length]
    exact nd_le hb (Nat.lt_of_lt_of_le hn (Nat.pow_le_pow_left hb 1900))
theorem rjustF_len {x : PySem.Str} {k c : Nat} : (Txt.rjustF x (k : Int) c).length ≤ x.length + k := by
  unfold Txt.rjustF
  split
  · omega
  · unfold Builtin.Str.padded
    simp only [PySem.Str.length, Array.size_append, Array.size_replicate]
    omega
/-! Num2 -/
theorem bd_zero (b : Nat) : ∀ k, bd b k 0 = List.replicate k 0
  | 0 => rfl
  | k + 1 => by
    show bd b k (0 / b) ++ [0 % b] = _
    rw [Nat.zero_div, Nat.zero_mod, bd_zero b k, List.replicate_succ']
theorem bd_pad {b : Nat} (hb : 2 ≤ b) : ∀ (j k n : Nat), n < b ^ j → j ≤ k → bd b k n = List.replicate (k - j) 0 ++ bd b j n
  | 0, k, n, h, _ => by
    have h0 : n = 0 := by simpa using h
    subst h0
    rw [bd_zero]; simp [bd]
  | j + 1, 0, n, _, h => absurd h (by omega)
  | j + 1, k + 1, n, h, hk => by
    show bd b k (n / b) ++ [n % b] = _ ++ (bd b j (n / b) ++ [n % b])
    have : n / b < b ^ j := by
      rw [Nat.div_lt_iff_lt_mul (by omega)]
      rwa [Nat.pow_succ] at h
    rw [bd_pad hb j k (n / b) this (by omega), List.append_assoc, show k + 1 - (j + 1) = k - j by omega]
theorem bd_append {b : Nat} (hb : 2 ≤ b) (j A : Nat) : ∀ (k B : Nat), B < b ^ k → bd b (j + k) (A * b ^ k + B) = bd b j A ++ bd b k B
  | 0, B, h => by
    have h0 : B = 0 := by simpa using h
    subst h0
    simp [bd]
  | k + 1, B, h => by
    have hb0 : 0 < b := by omega
    have e1 : (A * b ^ (k + 1) + B) / b = A * b ^ k + B / b := by
      rw [Nat.pow_succ, ← Nat.mul_assoc, Nat.mul_comm _ b, Nat.add_comm, Nat.add_mul_div_left _ _ hb0, Nat.add_comm]
    have e2 : (A * b ^ (k + 1) + B) % b = B % b := by
      rw [Nat.pow_succ, ← Nat.mul_assoc, Nat.mul_comm _ b, Nat.add_comm, Nat.add_mul_mod_self_left]
    have hB : B / b < b ^ k := by
      rw [Nat.div_lt_iff_lt_mul hb0]
      rwa [Nat.pow_succ] at h
    show bd b (j + k) ((A * b ^ (k + 1) + B) / b) ++ [(A * b ^ (k + 1) + B) % b] = bd b j A ++ (bd b k (B / b) ++ [B % b])
    rw [e1, e2, bd_append hb j A k (B / b) hB, List.append_assoc]
/-- the number of figures that nums writes -/
noncomputable def nf (b n : Nat) : Nat := if n = 0 then 1 else nd b n
theorem nums_bd (b n : Nat) : nums b n = tx (bd b (nf b n) n) := by
  unfold nums nf
  by_cases h : n = 0
  · subst h
    simp [bd]
  · rw [if_neg h, if_neg h]; rfl
theorem nf_lt {b : Nat} (hb : 2 ≤ b) (n : Nat) : n < b ^ nf b n := by
  unfold nf
  split
  · subst n; simp; omega
  · exact nd_lt hb n
theorem nf_le {b : Nat} (hb : 2 ≤ b) {k n : Nat} (h : n < b ^ k) (hk : 1 ≤ k) : nf b n ≤ k := by
  unfold nf
  split
  · exact hk
  · exact nd_le hb h
theorem rjust_bd {b : Nat} (hb : 2 ≤ b) {j k n : Nat} (h : n < b ^ j) (hjk : j ≤ k) : Txt.rjustF (tx (bd b j n)) (k : Int) 48 = tx (bd b k n) := by
  have hl : (tx (bd b j n)).length = j := by rw [tx_length, bd_length]
  unfold Txt.rjustF
  rw [hl]
  split
  · have : j = k := by omega
    rw [this]
  · rw [bd_pad hb j k n h hjk]
    unfold Builtin.Str.padded
    show (⟨_⟩ : PySem.Str) = ⟨_⟩
    congr 1
    simp [tx, dg]
theorem rjust_small {b : Nat} (hb : 2 ≤ b) {k n : Nat} (h : n < b ^ k) (hk : 1 ≤ k) : Txt.rjustF (nums b n) (k : Int) 48 = tx (bd b k n) := by
  rw [nums_bd]
  exact rjust_bd hb (nf_lt hb n) (nf_le hb h hk)
theorem rjust_big {b : Nat} (hb : 2 ≤ b) {k n h : Nat} (hn : n < b ^ k) (h1 : 1 ≤ h) (hk : h + 1 ≤ k) :
    Txt.rjustF (nums b (n / b ^ h) ++ Txt.rjustF (nums b (n % b ^ h)) (h : Int) 48) (k : Int) 48 = tx (bd b k n) := by
  have hp : 0 < b ^ h := Nat.pow_pos (by omega)
  have hB : n % b ^ h < b ^ h := Nat.mod_lt _ hp
  rw [rjust_small hb hB h1, nums_bd, ← tx_append, ← bd_append hb _ _ _ _ hB]
  have e : n / b ^ h * b ^ h + n % b ^ h = n := by rw [Nat.mul_comm]; exact Nat.div_add_mod n (b ^ h)
  rw [e]
  have hA : n / b ^ h < b ^ (k - h) := by
    rw [Nat.div_lt_iff_lt_mul hp, ← Nat.pow_add, show k - h + h = k by omega]
    exact hn
  have hle := nf_le hb hA (by omega)
  refine rjust_bd hb ?_ (by omega)
  rw [Nat.pow_add]
  have h2 := nf_lt hb (n / b ^ h)
  calc n = n / b ^ h * b ^ h + n % b ^ h := e.symm
    _ < n / b ^ h * b ^ h + b ^ h := by omega
    _ = (n / b ^ h + 1) * b ^ h := by rw [Nat.add_mul, Nat.one_mul]
    _ ≤ b ^ nf b (n / b ^ h) * b ^ h := Nat.mul_le_mul_right _ h2
/-! R1 -/
section
set_option maxRecDepth 100000
theorem intBits_shift (e : Nat) : e >>> (Builtin.Int.intBits (e : Int)) = 0 := by
  unfold Builtin.Int.intBits
  split
  · rename_i h
    have : e = 0 := by simpa using h
    subst this; rfl
  · rw [Int.natAbs_natCast, Nat.shiftRight_eq_div_pow]
    exact Nat.div_eq_of_lt Nat.lt_log2_self
theorem powMod_eq (b e m : Nat) : Builtin.powMod b e m = b ^ e % m := by
  unfold Builtin.powMod
  have key : ∀ n p, p = b ^ (e >>> n) % m → (List.range n).reverse.foldl (fun p i => if e.testBit i then p * p % m * b % m else p * p % m) p = b ^ e % m := by
    intro n
    induction n with
    | zero => intro p hp; simpa using hp
    | succ n ih =>
      intro p hp
      rw [List.range_succ, List.reverse_append]
      simp only [List.reverse_cons, List.reverse_nil, List.nil_append, List.singleton_append, List.foldl_cons]
      apply ih
      have h2 : e >>> n = 2 * (e >>> (n + 1)) + (e >>> n) % 2 := by
        rw [Nat.shiftRight_succ]
        omega
      have hbit : e.testBit n = decide ((e >>> n) % 2 = 1) := by
        rw [Nat.testBit_eq_decide_div_mod_eq, Nat.shiftRight_eq_div_pow]
      have hsq : p * p % m = b ^ (2 * (e >>> (n + 1))) % m := by
        rw [hp, ← Nat.mul_mod, ← Nat.pow_add, Nat.two_mul]
      rw [hbit, hsq]
      by_cases h : (e >>> n) % 2 = 1
      · rw [h] at h2
        simp only [h, decide_true, if_true]
        rw [h2, Nat.pow_succ, Nat.mod_mul_mod]
      · have h0 : (e >>> n) % 2 = 0 := by omega
        rw [h0, Nat.add_zero] at h2
        simp only [h, decide_false, Bool.false_eq_true, if_false]
        rw [h2]
  apply key
  rw [intBits_shift]
  simp
theorem kind_pow : builtinKind "pow" = none := by decide +kernel
theorem plain_pow : plainId "pow" = true := by decide +kernel
theorem entry_pow : entryFor table "pow" = some Builtin.«pow» := entryFor_of_fast (by kernel_rfl)
theorem args_pow3 (a b c : Value) : argsOk "pow" ⟨[a, b, c], []⟩ := by unfold argsOk; kernel_rfl
theorem look_int_pow : typeLookup (.type "int") "__pow__" = pure (some (.builtin "int.__pow__")) := by rw [typeLookup_type, builtinLookup_eq_fast]; kernel_rfl
section
variable {prog : Program} {w : World} {A : Around} {E : Value → Shared → Prop} {s : Shared} {Q : Value → Shared → Prop}
theorem call_int_pow3 {a e m : Nat} {t u v : Tok} (hm : 2 ≤ m) (h : Q (.int ((a ^ e % m : Nat) : Int) s.toks) { s with toks := s.toks + 1 }) :
    wpAny (model prog w) A (call (.builtin "int.__pow__") [.int a t, .int e u, .int m v]) Q E s := by
  refine wpAny_call_entry slot_int_pow (typeIs_int s a t) entry_int_pow ?_ (F.args_int_pow_3 _ _ _)
  show wpAny _ _ (if ((m : Int) == 0) = true then _ else _) _ _ s
  rw [if_neg (by simp; omega)]
  show wpAny _ _ (if (((m : Int).natAbs) == 1) = true then _ else _) _ _ s
  rw [if_neg (by simp; omega)]
  show wpAny _ _ (if (e : Int) < 0 then _ else _) _ _ s
  rw [if_neg (by omega)]
  show wpAny _ _ (retInt (if (decide ((m : Int) < 0) && ((Builtin.powMod ((a : Int) % ((m : Int).natAbs : Int)).toNat (e : Int).natAbs (m : Int).natAbs : Nat) : Int) != 0) = true then _ else ((Builtin.powMod ((a : Int) % ((m : Int).natAbs : Int)).toNat (e : Int).natAbs (m : Int).natAbs : Nat) : Int))) _ _ s
  have hneg : decide ((m : Int) < 0) = false := by simp
  rw [hneg, Bool.false_and, if_neg Bool.false_ne_true, powMod_eq]
  have e1 : ((a : Int) % ((m : Int).natAbs : Int)).toNat = a % m := by
    rw [Int.natAbs_natCast]
    exact Int.toNat_natCast (a % m)
  rw [e1, Int.natAbs_natCast, Int.natAbs_natCast, ← Nat.pow_mod]
  exact wpAny_bind (wpAny_mkInt (wpAny_pure ⟨_, rfl, h⟩))
theorem pow3 {a e m : Nat} {t u v : Tok} (hm : 2 ≤ m) (h : Q (.int ((a ^ e % m : Nat) : Int) s.toks) { s with toks := s.toks + 1 }) :
    wpAny (model prog w) A (call (.builtin "pow") [.int a t, .int e u, .int m v]) Q E s := by
  refine Calls.call_function_entry kind_pow plain_pow entry_pow (args_pow3 _ _ _) ?_
  unfold Builtin.«pow»
  refine wpAny_bind (m := Builtin.Builtins.bindParams "pow" _ _ _) (wpAny_pure ?_)
  have f1 := look_int_pow
  refine wpAny_bind (wpAny_rule ?_)
  refine wpAny_bind (m := typeOf _) (wpAny_pure ?_)
  refine wpAny_bind (m := typeLookup (.type "int") "__pow__") ?_
  rw [f1]
  refine wpAny_pure ?_
  refine wpAny_bind (m := callSpecial? (.int a t) (PySem.Str.ofString "__pow__") [.int e u, .int m v]) (wpAny_callSpecial?_slot (name := PySem.Str.ofString "__pow__") (typeIs_int s a t) slot_int_pow (call_int_pow3 hm ?_))
  show wpAny _ _ (if (Value.int ((a ^ e % m : Nat) : Int) s.toks != Value.notImplemented) = true then _ else _) _ _ _
  rw [if_pos (by rfl)]
  exact wpAny_pure ⟨_, rfl, h⟩
end
end
/-! R2 -/
section
set_option maxRecDepth 100000
open PySem.NumText
def valB (b : Nat) (l : List Nat) : Nat := l.foldl (fun acc d => acc * b + d) 0
theorem dg_digit : ∀ d : Nat, d < 36 → (int_private% "digitValue?") (dg d) = some d := by decide
theorem dg_blank : ∀ d : Nat, d < 36 → (int_private% "isBlank") (dg d) = false := by decide
theorem dg_sign : ∀ d : Nat, d < 36 → dg d ≠ 45 ∧ dg d ≠ 43 ∧ dg d ≠ 95 ∧ dg d ≠ 0 ∧ dg d < 128 := by decide
theorem dg_pre : ∀ d : Nat, d < 36 → (dg d ≠ 120 ∨ 16 < d + 1) ∧ dg d ≠ 88 ∧ (dg d ≠ 111 ∨ 8 < d + 1) ∧ dg d ≠ 79 ∧ (dg d ≠ 98 ∨ 2 < d + 1) ∧ dg d ≠ 66 := by decide
theorem numDigits {b : Nat} (hb : b ≤ 36) {l : List Nat} (hl : ∀ d ∈ l, d < b) (hne : l ≠ []) : (int_private% "numeralDigits?") b (l.map dg) = some l.toArray := by
  have key : ∀ (l : List Nat) (acc : Array Nat) (f : Bool), (∀ d ∈ l, d < b) → (l.map dg).foldlM (init := (acc, f)) (fun (x : Array Nat × Bool) c =>
      match x with
      | (ds, afterDigit) => if c == 95 then (if afterDigit then some (ds, false) else none)
        else match (int_private% "digitValue?") c with
          | some d => if d < b then some (ds.push d, true) else none
          | none => none) = some (acc ++ l.toArray, if l = [] then f else true) := by
    intro l
    induction l with
    | nil => intro acc f _; simp
    | cons d l ih =>
      intro acc f h
      have hd : d < b := h d (.head _)
      rw [List.map_cons, List.foldlM_cons]
      have h95 : (dg d == 95) = false := by simpa using (dg_sign d (by omega)).2.2.1
      simp only [h95, dg_digit d (by omega), hd, if_true, Bool.false_eq_true, if_false]
      rw [Option.bind_eq_bind, Option.bind_some, ih _ _ (fun d hd => h d (.tail _ hd))]
      simp
  have h := key l #[] false hl
  rw [if_neg hne] at h
  have h2 := congrArg (fun o : Option (Array Nat × Bool) => o.bind fun x => if x.2 then some x.1 else none) h
  refine Eq.trans ?_ (h2.trans ?_)
  · rfl
  · simp
theorem drop_none {p : Nat → Bool} : ∀ {t : List Nat}, (∀ x ∈ t, p x = false) → t.dropWhile p = t
  | [], _ => rfl
  | x :: t, h => by rw [List.dropWhile_cons, h x (.head _)]; rfl
theorem pre_ne {b : Nat} (hb : b ≤ 36) {l : List Nat} (hl : ∀ d ∈ l, d < b) {p : Nat} (h : prefix? (l.map dg) = some p) : b ≠ p := by
  match l, hl, h with
  | [], _, h => cases h
  | [d], _, h => unfold prefix? at h; split at h; · rename_i h'; simp at h'
                 · cases h
  | d :: e :: r, hl, h =>
    have he : e < b := hl e (.tail _ (.head _))
    have hp := dg_pre e (by omega)
    unfold prefix? at h
    split at h
    · rename_i c tl h'
      simp only [List.map_cons, List.cons.injEq] at h'
      obtain ⟨_, hc, _⟩ := h'
      subst hc
      split at h
      · rename_i hq
        cases h
        simp only [Bool.or_eq_true, beq_iff_eq] at hq
        omega
      · split at h
        · rename_i hq
          cases h
          simp only [Bool.or_eq_true, beq_iff_eq] at hq
          omega
        · split at h
          · rename_i hq
            cases h
            simp only [Bool.or_eq_true, beq_iff_eq] at hq
            omega
          · cases h
    · cases h
theorem read_digits {b : Nat} (hb2 : 2 ≤ b) (hb : b ≤ 36) {l : List Nat} (hl : ∀ d ∈ l, d < b) (hne : l ≠ []) (hlen : l.length ≤ 6000) :
    (int_private% "readNumeral") 0 b (l.map dg) = (int_private% "Numeral.value") (valB b l : Int) := by
  have hbl : ∀ x ∈ l.map dg, blank x = false := by
    intro x hx
    obtain ⟨d, hd, rfl⟩ := List.mem_map.mp hx
    have := hl d hd
    exact dg_blank d (by omega)
  have hs : sign (l.map dg) = (false, l.map dg) := by
    unfold sign
    match l, hl, hne with
    | d :: r, hl, _ =>
      have hd : d < b := hl d (.head _)
      have := dg_sign d (by omega)
      split
      · rename_i h'
        simp only [List.map_cons, List.cons.injEq] at h'
        omega
      · rename_i h'
        simp only [List.map_cons, List.cons.injEq] at h'
        omega
      · rfl
  have hbs : based b (l.map dg) = (b, false, l.map dg) := by
    unfold based
    split
    · rename_i p hp
      have h1 := pre_ne hb hl hp
      rw [if_neg]
      simp only [Bool.or_eq_true, beq_iff_eq]
      omega
    · rw [if_neg]
      simp
      omega
  have hr : ((l.map dg).reverse.dropWhile blank).reverse = l.map dg := by
    rw [drop_none (fun x hx => hbl x (List.mem_reverse.mp hx)), List.reverse_reverse]
  have hd : digits? b (l.map dg) = some l.toArray := numDigits hb hl hne
  rw [readNumeral_eq, drop_none hbl, hs, hbs]
  dsimp only
  rw [hr, hd]
  unfold judge
  dsimp only
  rw [if_neg (by simp), if_neg (by simp; omega)]
  simp only [Bool.false_and, Bool.false_eq_true, if_false]
  congr 1
  unfold valB
  rw [List.foldl_toArray']
  · rfl
end
/-! R3 -/
section
set_option maxRecDepth 100000
open PySem.NumText PySem.Calls
theorem take_all {p : Nat → Bool} : ∀ {t : List Nat}, (∀ x ∈ t, p x = true) → t.takeWhile p = t
  | [], _ => rfl
  | x :: t, h => by rw [List.takeWhile_cons, h x (.head _), if_pos rfl, take_all fun y hy => h y (.tail _ hy)]
theorem wp_textB {M : Model} {A : Around} {E : Value → Shared → Prop} {s : Shared} {Q : Value → Shared → Prop} {v : Value} {text : List Nat} {b : Nat} {n : Int}
    (hz : text.takeWhile (· != 0) = text) (hs : text.length ≤ 640) (hr : (int_private% "readNumeral") 0 b text = (int_private% "Numeral.value") n)
    (h : Q (.int n s.toks) { s with toks := s.toks + 1 }) :
    wpAny M A ((int_private% "intFromText") v text b) Q E s := by
  have hs' : (text.takeWhile (· != 0)).length ≤ 640 := by rw [hz]; exact hs
  have hr' : (int_private% "readNumeral") 0 b (text.takeWhile (· != 0)) = (int_private% "Numeral.value") n := by rw [hz]; exact hr
  have ha : ((text.takeWhile (· != 0)).length == text.length) = true := by rw [hz]; simp
  clear hz hs hr
  obtain ⟨hp, g, d, tk, os⟩ := s
  repeat (any_goals (first
    | assumption
    | (with_reducible refine wpAny_ite_true (decide_eq_true hs') ?_)
    | (with_reducible refine wpAny_ite_true (decide_eq_true ha) ?_)
    | wp_step))
  all_goals (try rw [hr'])
  all_goals (try dsimp only)
  repeat (any_goals (first
    | assumption
    | (with_reducible refine wpAny_ite_true (decide_eq_true hs') ?_)
    | (with_reducible refine wpAny_ite_true (decide_eq_true ha) ?_)
    | wp_step))
set_option maxHeartbeats 4000000 in
theorem gives_text2 {b : Nat} (hb2 : 2 ≤ b) (hb : b ≤ 36) {l : List Nat} (hl : ∀ d ∈ l, d < b) (hne : l ≠ []) (hlen : l.length ≤ 640) (u v : Tok) :
    Gives (Builtin.«int.__new__» ⟨[.type "int", .str (tx l) u, .int b v], []⟩) (.int (valB b l : Int)) :=
  .of_wp fun M A E s Q h => by
    have hr := read_digits hb2 hb hl hne (by omega)
    have hz : (l.map dg).takeWhile (· != 0) = l.map dg := by
      have : ∀ x ∈ l.map dg, (x != 0) = true := by
        intro x hx
        obtain ⟨d, hd, rfl⟩ := List.mem_map.mp hx
        have := dg_sign d (by have := hl d hd; omega)
        simp; omega
      exact take_all this
    have hall : (tx l).cps.all (fun c => decide (c < 128)) = true := by
      simp only [tx, List.all_toArray, List.all_map, List.all_eq_true]
      intro d hd
      have := dg_sign d (by have := hl d hd; omega)
      simp; omega
    have hcps : (tx l).cps.toList = l.map dg := by simp [tx]
    have hnum : (int_private% "numeralText?") (.str (tx l) u) = pure (some (l.map dg)) := by
      have e : (int_private% "numeralText?") (.str (tx l) u) = pure (some (if (tx l).cps.all (fun c => decide (c < 128)) then (tx l).cps.toList else Unicode.numberText (tx l).cps.toList)) := rfl
      rw [e, hall, if_pos rfl, hcps]
    have hidx : Builtin.Int.intIndex "int.__new__" (.int (b : Int) v) = pure (b : Int) := rfl
    have hlen2 : (l.map dg).length ≤ 640 := by rw [List.length_map]; exact hlen
    obtain ⟨hp, g, d, tk, os⟩ := s
    have f1 := F.conv_sub_int
    have f2 := F.madeHere_int
    have hbb : ((((b : Int) != 0) && decide ((b : Int) < 2)) || decide ((b : Int) > 36)) = false := by
      simp; omega
    generalize hx : tx l = x at *
    repeat (any_goals (first
      | assumption
      | ((with_reducible show wpAny _ _ ((int_private% "intFromText") _ _ _) _ _ _); refine wp_textB hz hlen2 hr ?_)
      | wp_step))
    exact ⟨_, rfl, h⟩
theorem newCall_int_2 (a c : Value) : checkBuiltinCall "int.__new__" ⟨[.type "int", a, c], []⟩ = pure () := by kernel_rfl
theorem typeCall_int_2 (a c : Value) : checkTypeCall "int" ⟨[a, c], []⟩ = pure () := by kernel_rfl
theorem args_init_3 (obj a c : Value) : argsOk "object.__init__" ⟨obj :: [a, c], []⟩ := by unfold argsOk; kernel_rfl
theorem call_int2 {prog : Program} {w : World} {A : Around} {E : Value → Shared → Prop} {s : Shared} {Q : Value → Shared → Prop} {b : Nat} (hb2 : 2 ≤ b) (hb : b ≤ 36) {l : List Nat} (hl : ∀ d ∈ l, d < b) (hne : l ≠ []) (hlen : l.length ≤ 640) {u v : Tok}
    (h : Q (.int (valB b l : Int) s.toks) { s with toks := s.toks + 1 }) : wpAny (model prog w) A (call (.type "int") [.str (tx l) u, .int b v]) Q E s :=
  callType_new F.called_int F.newNe_int (typeCall_int_2 _ _) (newCall_int_2 _ _) (fun obj => args_init_3 obj _ _) F.entry_int_new (gives_text2 hb2 hb hl hne hlen u v).meets (show (Made.int (valB b l : Int)).post _ s from ⟨rfl, h⟩)
end
/-! R4 -/
section
set_option maxRecDepth 100000
open PySem.Spec PySem.Calls
theorem rangeSize_step {q ln : Nat} (hq : 1 ≤ q) (hln : 1 ≤ ln) : Builtin.Range.rangeSize 0 ((q * ln : Nat) : Int) (ln : Int) = ((q : Nat) : Int) := by
  unfold Builtin.Range.rangeSize
  have h0 : 1 ≤ q * ln := Nat.mul_le_mul hq hln
  rw [if_pos (by omega), if_pos (by omega)]
  have e : (((q * ln : Nat) : Int) - 0 - 1) = ((ln - 1 + ln * (q - 1) : Nat) : Int) := by
    have : q * ln = ln - 1 + ln * (q - 1) + 1 := by
      obtain ⟨q', rfl⟩ := Nat.exists_eq_add_of_le hq
      rw [Nat.add_sub_cancel_left, Nat.add_mul, Nat.mul_comm q' ln]
      omega
    omega
  rw [e, ← Int.natCast_ediv, Nat.add_mul_div_left _ _ (by omega), Nat.div_eq_of_lt (by omega)]
  omega
theorem small_step {q ln : Nat} (hq : 1 ≤ q) (hln : 1 ≤ ln) (hm : q * ln ≤ 46) : Builtin.Range.small 0 ((q * ln : Nat) : Int) (ln : Int) = true := by
  unfold Builtin.Range.small
  rw [rangeSize_step hq hln]
  have h1 : q ≤ 46 := Nat.le_trans (Nat.le_mul_of_pos_right q (by omega)) hm
  have h2 : ln ≤ 46 := Nat.le_trans (Nat.le_mul_of_pos_left ln (by omega)) hm
  simp only [Builtin.Range.rangeFitsLong, Bool.and_eq_true, Bool.or_eq_true, decide_eq_true_eq, beq_iff_eq]
  refine ⟨⟨⟨⟨⟨by omega, by omega⟩, by omega, by omega⟩, by omega, by omega⟩, by omega, by omega⟩, .inr ?_⟩
  rw [if_pos (by omega)]
  simp only [Bool.and_eq_true, decide_eq_true_eq]
  constructor <;> omega
open LCg
variable {prog : Program} {w : World} {A : Around} {E : Value → Shared → Prop} {s : Shared} {h₀ : Heap} {L : Addr} {m : PySem.Str → Option Value} {env : Env}
/-- the source of a comprehension: a range with any step -/
def StepSrc (prog : Program) (w : World) (A : Around) (h₀ : Heap) (L : Addr) (m : PySem.Str → Option Value) (env : Env) (elt : Expr) (x : PySem.Str) (scope : Scope) (cl : List (PySem.Str × Addr)) (Q : Value → Shared → Prop) (xv : Value) (s₁ : Shared) : Prop :=
  ∃ (r : Addr) (a b c : Int) (t u v : Tok) (n : Nat) (news : List (Addr × Obj)), xv = .ref r ∧ A.handled = none ∧ Fr h₀ L s₁.heap m ∧ News h₀ L s₁.heap news ∧ IsRange s₁.heap r a b c t u v ∧ Builtin.Range.small a b c = true ∧ Builtin.Range.rangeSize a b c = ((n : Nat) : Int) ∧ n ≤ sizeLine ∧
    ∀ g : Heap, CompRest prog w A h₀ L m env elt x scope cl { s₁ with heap := g } (fun _ => True) (fun i v => i < n ∧ ∃ t, v = .int (a + (i : Int) * c) t) (FinE h₀ L m { s₁ with heap := g } Q) n 0 [] news
theorem ListComp_step {elt iter : Expr} {x : PySem.Str} {px : Pos} {scope : Scope} {cl : List (PySem.Str × Addr)} {pos : Pos} {Q : Value → Shared → Prop} (F₀ : Fr h₀ L s.heap m)
    (hclos : closureFor scope env = pure cl) (hcell : ∀ y ∈ scope.names, y.2 ≠ .cell) (hkind : scope.kind = .function)
    (hnames : ∀ y ∈ scope.names, y.2 = .local → scope.names.lookup y.1 = some .local) (hx : scope.names.lookup x = some .local)
    (h : wpAny (model prog w) A (eval iter env) (StepSrc prog w A h₀ L m env elt x scope cl Q) E s)
    (hs : ∀ x, foldedSetIterable iter env x = pure x := by intro _; rfl) :
    wpAny (model prog w) A (eval (.ListComp elt [⟨.Name x px, iter, [], 0⟩] scope pos) env) Q E s := by
  rw [eval_ListComp]
  refine wpAny_comprehension_free (use := none) rfl hs hclos hkind hnames (wpAny_mono h (fun xv s₁ h₁ => ?_) fun _ _ e => e)
  obtain ⟨r, a, b, c, t, u, v, n, news, rfl, hh, F, N, hr, hsm, hn, hsz, R⟩ := h₁
  refine wpAny_pyIter_range hr hsm ?_
  have up : ∀ (o : Obj) (b : Addr) (o' : Obj), s₁.heap.get? b = some o' → (s₁.heap.push o).get? b = some o' := fun _ _ _ e => Heap.get?_push_of_some _ e
  have W : Walks prog w A s₁.heap.objs.size [s₁.heap.objs.size] [s₁.heap.objs.size] n (fun i v => i < n ∧ ∃ t, v = .int (a + i * c) t)
      (fun i h => IsRangeIter h s₁.heap.objs.size (a + (i : Nat) * c) ((n : Int) - (i : Nat)) c) := (Walks.range hh _ a c n).bound
  refine block_U W hsz (fun i h st => ⟨_, st⟩) ?_ hcell hkind hx ?_ ?_ (F.keeps (up _)) (N.grown (up _)) (Nat.ne_of_lt F.ns.lt) (next_is_new F) (fun p hp => Nat.ne_of_lt (Heap.lt_size (N p hp).1)) trivial (R _) ?_
  · intro i h h' o nw st e e' _ _ _
    have st' : h.get? s₁.heap.objs.size = some _ := st
    show h'.get? s₁.heap.objs.size = some _
    rw [e', ← e]; exact st'
  · show IsRangeIter _ _ _ _ _
    rw [hn]
    simpa using Heap.get?_push_size _ rfl
  · intro b hb
    rw [List.mem_singleton.mp hb]
    show s₁.heap.objs.size < (s₁.heap.push _).objs.size
    rw [Heap.size_push]; exact Nat.lt_succ_self _
  · intro D C h tk m' ys news' F' N' o1 hn' hC₀ hD₀ hCL hDL hCD offC fin
    refine ⟨m', hn', fun h'' hs'' => fin D h'' tk (F'.change hs'' hCL hC₀) (fun p hp => ?_) o1⟩
    refine ⟨hs''.extBut _ _ ?_ (N' p hp).1, (N' p hp).2⟩
    rcases List.mem_cons.mp hp with rfl | hp
    · exact Ne.symm hCD
    · exact offC p hp
end
/-! Num3 -/
theorem tx_cps (P : List Nat) : (tx P).cps.toList = P.map dg := by simp [tx]
theorem slice_tx (P : List Nat) {i j : Int} (h : 0 ≤ i ∧ i ≤ j ∧ j ≤ P.length) : Txt.slice (tx P) (some i) (some j) = tx ((P.drop i.toNat).take (j - i).toNat) := by
  have h1 := slice_closes (x := tx P) (i := i) (j := j) (by rw [tx_cps, List.length_map]; exact h)
  rw [eq_of_beq h1, tx_cps]
  show (⟨_⟩ : PySem.Str) = ⟨_⟩
  rw [List.map_take, List.map_drop]
theorem slice_to_tx (P : List Nat) {j : Int} (h : 0 ≤ j ∧ j ≤ P.length) : Txt.slice (tx P) none (some j) = tx (P.take j.toNat) := by
  have h1 := slice_closes_to (x := tx P) (j := j) (by rw [tx_cps, List.length_map]; exact h)
  rw [eq_of_beq h1, tx_cps]
  show (⟨_⟩ : PySem.Str) = ⟨_⟩
  simp
theorem slice_from_tx (P : List Nat) {i : Int} (h : 0 ≤ i ∧ i ≤ P.length) : Txt.slice (tx P) (some i) none = tx (P.drop i.toNat) := by
  have hl : (tx P).length = P.length := tx_length P
  rw [slice_from_eq (b := P.length) h.1 (by rw [hl]; exact h.2) (by rw [hl]), tx_cps]
  show (⟨_⟩ : PySem.Str) = ⟨_⟩
  congr 2
  rw [List.take_of_length_le (by simp; omega), List.map_drop]
theorem item_tx (P : List Nat) {k : Nat} (h : k < P.length) : Txt.item (tx P) (k : Int) = one P[k] := by
  unfold Txt.item Txt.charAt
  have h1 : seqIndex? (k : Int) (tx P).length = some k := by
    rw [tx_length]
    exact seqIndex_of (by omega) (by omega)
  rw [h1]
  simp [one, tx, h]
/-- the i-th piece of length len -/
def chunk (P : List Nat) (len i : Nat) : List Nat := (P.drop (i * len)).take len
def totB (b : Nat) (P : List Nat) (len q : Nat) : Nat := ((List.range q).map fun i => valB b (chunk P len i)).sum
theorem totB_int (b : Nat) (P : List Nat) (ln q : Nat) : (((List.range q).map fun (i : Nat) => (0 : Int) + (i : Int) * (ln : Int)).map (fun k => ((valB b ((P.drop k.toNat).take ln) : Nat) : Int))).sum = ((totB b P ln q : Nat) : Int) := by
  unfold totB chunk
  induction List.range q with
  | nil => rfl
  | cons i l ih =>
    simp only [List.map_cons, List.sum_cons, Int.natCast_add]
    rw [ih]
    congr 1
    have e : ((0 : Int) + (i : Int) * (ln : Int)).toNat = i * ln := by
      rw [Int.zero_add, ← Int.natCast_mul, Int.toNat_natCast]
    rw [e]
theorem flat_singles {α : Type} (a : α) : ∀ n : Nat, (List.replicate n [a]).flatten = List.replicate n a
  | 0 => rfl
  | n + 1 => by rw [List.replicate_succ, List.flatten_cons, flat_singles a n]; rfl
theorem half_lists {P : List Nat} {b h : Nat} (hb : 2 ≤ b) (hh : ∀ k, k < h → P.getD k 0 + P.getD (k + h) 0 = b - 1) :
    (rangeKs 0 h).map (fun k => ((P.getD k.toNat 0 + P.getD (k.toNat + h) 0 : Nat) : Int)) = (List.replicate h [(b : Int) - 1]).flatten := by
  rw [flat_singles, List.eq_replicate_iff]
  refine ⟨by simp [rangeKs], fun x hx => ?_⟩
  obtain ⟨k, hk, rfl⟩ := List.mem_map.mp hx
  have hm := mem_rangeKs hk
  have := hh k.toNat (by omega)
  rw [this]
  omega
theorem valB_one (b d : Nat) : valB b [d] = d := by simp [valB]
theorem item_tx' (P : List Nat) {k : Nat} (h : k < P.length) : Txt.item (tx P) (k : Int) = tx [P.getD k 0] := by
  rw [item_tx P h, List.getD_eq_getElem?_getD, List.getElem?_eq_getElem h]; rfl
theorem getD_lt {P : List Nat} {b k : Nat} (hP : ∀ d ∈ P, d < b) (hk : k < P.length) : P.getD k 0 < b := by
  rw [List.getD_eq_getElem?_getD, List.getElem?_eq_getElem hk]
  exact hP _ (List.getElem_mem hk)
/-! Num4 -/
theorem valB_snoc (b : Nat) (l : List Nat) (d : Nat) : valB b (l ++ [d]) = valB b l * b + d := by
  unfold valB; rw [List.foldl_append]; rfl
theorem valB_append (b : Nat) (l m : List Nat) : valB b (l ++ m) = valB b l * b ^ m.length + valB b m := by
  have key : ∀ (m : List Nat) (a c : Nat), m.foldl (fun acc d => acc * b + d) (a + c) = a * b ^ m.length + m.foldl (fun acc d => acc * b + d) c := by
    intro m
    induction m with
    | nil => intro a c; simp
    | cons d m ih =>
      intro a c
      simp only [List.foldl_cons, List.length_cons]
      rw [show (a + c) * b + d = a * b + (c * b + d) by rw [Nat.add_mul]; omega, ih, Nat.pow_succ, Nat.mul_assoc, Nat.mul_comm b]
  unfold valB
  rw [List.foldl_append]
  have := key m (l.foldl (fun acc d => acc * b + d) 0) 0
  simpa using this
theorem valB_bd {b : Nat} (hb : 2 ≤ b) : ∀ (k x : Nat), x < b ^ k → valB b (bd b k x) = x
  | 0, x, h => by
    have : x = 0 := by simpa using h
    subst this; rfl
  | k + 1, x, h => by
    show valB b (bd b k (x / b) ++ [x % b]) = x
    have : x / b < b ^ k := by
      rw [Nat.div_lt_iff_lt_mul (by omega)]
      rwa [Nat.pow_succ] at h
    rw [valB_snoc, valB_bd hb k _ this, Nat.mul_comm]
    exact Nat.div_add_mod x b
theorem bd_lt {b : Nat} (hb : 2 ≤ b) : ∀ (k x : Nat), ∀ d ∈ bd b k x, d < b
  | 0, _, _, h => nomatch h
  | k + 1, x, d, h => by
    rcases List.mem_append.mp h with h | h
    · exact bd_lt hb k _ d h
    · rw [List.mem_singleton.mp h]
      exact Nat.mod_lt _ (by omega)
theorem valB_lt {b : Nat} (hb : 2 ≤ b) (l : List Nat) (hl : ∀ d ∈ l, d < b) : valB b l < b ^ l.length := by
  have key : ∀ (l : List Nat) (a : Nat), (∀ d ∈ l, d < b) → l.foldl (fun acc d => acc * b + d) a < (a + 1) * b ^ l.length := by
    intro l
    induction l with
    | nil => intro a _; simp
    | cons d l ih =>
      intro a h
      simp only [List.foldl_cons, List.length_cons]
      have hd : d < b := h d (.head _)
      refine Nat.lt_of_lt_of_le (ih (a * b + d) fun e he => h e (.tail _ he)) ?_
      rw [Nat.pow_succ, Nat.mul_comm (b ^ l.length) b, ← Nat.mul_assoc]
      refine Nat.mul_le_mul_right _ ?_
      rw [Nat.add_mul]
      omega
  have := key l 0 hl
  simpa [valB] using this
theorem bd_valB {b : Nat} (hb : 2 ≤ b) (l : List Nat) (hl : ∀ d ∈ l, d < b) : bd b l.length (valB b l) = l := by
  have key : ∀ (n : Nat) (l : List Nat), l.length = n → (∀ d ∈ l, d < b) → bd b n (valB b l) = l := by
    intro n
    induction n with
    | zero => intro l h _; rw [List.length_eq_zero_iff.mp h]; rfl
    | succ n ih =>
      intro l h hl
      have hne : l ≠ [] := fun h0 => by rw [h0] at h; simp at h
      have e := List.dropLast_concat_getLast hne
      have hlast : l.getLast hne < b := hl _ (List.getLast_mem hne)
      have hlen : l.dropLast.length = n := by rw [List.length_dropLast]; omega
      have hd : ∀ d ∈ l.dropLast, d < b := fun d hd => hl d ((List.dropLast_sublist l).subset hd)
      rw [← e, valB_snoc]
      show bd b n ((valB b l.dropLast * b + l.getLast hne) / b) ++ [(valB b l.dropLast * b + l.getLast hne) % b] = _
      have e1 : (valB b l.dropLast * b + l.getLast hne) / b = valB b l.dropLast := by
        rw [Nat.mul_comm, Nat.mul_add_div (by omega), Nat.div_eq_of_lt hlast, Nat.add_zero]
      have e2 : (valB b l.dropLast * b + l.getLast hne) % b = l.getLast hne := by
        rw [Nat.mul_comm, Nat.mul_add_mod, Nat.mod_eq_of_lt hlast]
      rw [e1, e2, ih _ hlen hd]
  exact key _ l rfl hl
def Rn (p b n k : Nat) : Nat := n * (b ^ k - 1) / p
abbrev primesQ : List Nat := [3, 5, 7, 11, 13, 17, 19, 23, 29, 31, 37, 41, 43, 47]
abbrev LawNum (p b n sz : Nat) : Prop :=
  p ∈ primesQ ∧ 2 ≤ b ∧ 1 ≤ n ∧ n < p ∧ 1 ≤ sz ∧ b ^ sz % p = 1 ∧ ∀ j, 1 ≤ j → j < sz → b ^ j % p ≠ 1
theorem LawNum.hp {p b n sz : Nat} (W : LawNum p b n sz) : p ∈ primesQ := W.1
theorem LawNum.hb2 {p b n sz : Nat} (W : LawNum p b n sz) : 2 ≤ b := W.2.1
theorem LawNum.hn1 {p b n sz : Nat} (W : LawNum p b n sz) : 1 ≤ n := W.2.2.1
theorem LawNum.hnp {p b n sz : Nat} (W : LawNum p b n sz) : n < p := W.2.2.2.1
theorem LawNum.hs1 {p b n sz : Nat} (W : LawNum p b n sz) : 1 ≤ sz := W.2.2.2.2.1
theorem LawNum.hord {p b n sz : Nat} (W : LawNum p b n sz) : b ^ sz % p = 1 := W.2.2.2.2.2.1
theorem LawNum.hmin {p b n sz : Nat} (W : LawNum p b n sz) : ∀ j, 1 ≤ j → j < sz → b ^ j % p ≠ 1 := W.2.2.2.2.2.2
theorem pow_one_mod {p b sz : Nat} (hp : 2 ≤ p) (h : b ^ sz % p = 1) (o : Nat) : b ^ (o * sz) % p = 1 := by
  rw [Nat.mul_comm, Nat.pow_mul, Nat.pow_mod, h, Nat.one_pow, Nat.mod_eq_of_lt (by omega)]
/-- p times the rest is n (b^k - 1) -/
theorem rn_mul {p b n k : Nat} (hp : 2 ≤ p) (hk : b ^ k % p = 1) : Rn p b n k * p = n * (b ^ k - 1) := by
  unfold Rn
  refine Nat.div_mul_cancel ?_
  refine Nat.dvd_trans ?_ (Nat.dvd_mul_left _ _)
  have e := Nat.div_add_mod (b ^ k) p
  rw [hk] at e
  exact ⟨b ^ k / p, by omega⟩
theorem pow_ge {p b k : Nat} (hp : 2 ≤ p) (hb : 2 ≤ b) (hk : 1 ≤ k) (h : b ^ k % p = 1) : p + 1 ≤ b ^ k := by
  have e := Nat.div_add_mod (b ^ k) p
  rw [h] at e
  have h2 : 1 < b ^ k := Nat.one_lt_pow (by omega) (by omega)
  rcases Nat.eq_zero_or_pos (b ^ k / p) with h0 | h0
  · rw [h0] at e; omega
  · have : p * 1 ≤ p * (b ^ k / p) := Nat.mul_le_mul_left p h0
    omega
theorem rn_pos {p b n k : Nat} (hp : 2 ≤ p) (hb : 2 ≤ b) (hk : 1 ≤ k) (h : b ^ k % p = 1) (hn : 1 ≤ n) : 0 < Rn p b n k := by
  have h1 := rn_mul (n := n) hp h
  have h2 := pow_ge hp hb hk h
  rcases Nat.eq_zero_or_pos (Rn p b n k) with h0 | h0
  · rw [h0] at h1
    have : 1 * 1 ≤ n * (b ^ k - 1) := Nat.mul_le_mul hn (by omega)
    omega
  · exact h0
theorem rn_lt {p b n k : Nat} (hp : 2 ≤ p) (hb : 2 ≤ b) (h : b ^ k % p = 1) (hn : n < p) : Rn p b n k < b ^ k := by
  have h1 := rn_mul (n := n) hp h
  have h2 : 0 < b ^ k := Nat.pow_pos (by omega)
  have h3 : n * (b ^ k - 1) < p * b ^ k := calc
    n * (b ^ k - 1) ≤ n * b ^ k := Nat.mul_le_mul_left n (by omega)
    _ < p * b ^ k := Nat.mul_lt_mul_of_pos_right hn h2
  rw [← h1, Nat.mul_comm p] at h3
  exact Nat.lt_of_mul_lt_mul_right h3
theorem rn_step {p b n sz : Nat} (hp : 2 ≤ p) (hb : 2 ≤ b) (h : b ^ sz % p = 1) (o : Nat) : Rn p b n ((o + 1) * sz) = Rn p b n (o * sz) * b ^ sz + Rn p b n sz := by
  have h1 := rn_mul (n := n) hp (pow_one_mod hp h (o + 1))
  have h2 := rn_mul (n := n) hp (pow_one_mod hp h o)
  have h3 := rn_mul (n := n) hp h
  have hM : 0 < b ^ sz := Nat.pow_pos (by omega)
  have hX : 0 < b ^ (o * sz) := Nat.pow_pos (by omega)
  have hpw : b ^ ((o + 1) * sz) = b ^ (o * sz) * b ^ sz := by rw [Nat.add_mul, Nat.one_mul, Nat.pow_add]
  refine Nat.eq_of_mul_eq_mul_right (by omega : 0 < p) ?_
  have e1 : (Rn p b n (o * sz) * b ^ sz + Rn p b n sz) * p = Rn p b n (o * sz) * p * b ^ sz + Rn p b n sz * p := by
    rw [Nat.add_mul, Nat.mul_right_comm]
  rw [h1, e1, h2, h3, hpw, Nat.mul_assoc, ← Nat.mul_add]
  congr 1
  obtain ⟨x, hx⟩ : ∃ x, b ^ (o * sz) = x + 1 := ⟨_, (Nat.succ_pred_eq_of_pos hX).symm⟩
  obtain ⟨y, hy⟩ : ∃ y, b ^ sz = y + 1 := ⟨_, (Nat.succ_pred_eq_of_pos hM).symm⟩
  rw [hx, hy]
  simp only [Nat.add_sub_cancel, Nat.add_mul, Nat.mul_add, Nat.mul_one, Nat.one_mul]
  omega
theorem period_rep {p b n sz : Nat} (hp : 2 ≤ p) (hb : 2 ≤ b) (h : b ^ sz % p = 1) (hn : n < p) : ∀ o : Nat, bd b (o * sz) (Rn p b n (o * sz)) = (List.replicate o (bd b sz (Rn p b n sz))).flatten
  | 0 => by simp [bd]
  | o + 1 => by
    rw [rn_step hp hb h, Nat.add_mul, Nat.one_mul, bd_append hb _ _ _ _ (rn_lt hp hb h hn), period_rep hp hb h hn o, List.replicate_succ', List.flatten_append]
    simp
theorem mul_tx (P : List Nat) (o : Nat) (ho : 1 ≤ o) : Txt.mul (tx P) (o : Int) = tx ((List.replicate o P).flatten) := by
  unfold Txt.mul
  rw [if_neg (by omega)]
  split
  · rename_i h
    simp only [Bool.or_eq_true, beq_iff_eq] at h
    rcases h with h | h
    · have : o = 1 := by omega
      subst this
      simp
    · rw [tx_length] at h
      rw [List.length_eq_zero_iff.mp h]
      simp
  · show (⟨_⟩ : PySem.Str) = ⟨_⟩
    congr 1
    have key : ∀ (n : Nat) (acc : Array Nat), (List.replicate n (tx P).cps).foldl (· ++ ·) acc = acc ++ ((List.replicate n P).flatten.map dg).toArray := by
      intro n
      induction n with
      | zero => intro acc; simp
      | succ n ih =>
        intro acc
        rw [List.replicate_succ, List.foldl_cons, ih, List.replicate_succ, List.flatten_cons, List.map_append]
        simp [tx]
    rw [Int.toNat_natCast, key]
    simp
/-! Num5 -/
/-- the rotation: the rest of base times the numerator has the period turned by one figure -/
theorem rotate {p b n sz : Nat} (hp : 2 ≤ p) (hb : 2 ≤ b) (hs : 1 ≤ sz) (h : b ^ sz % p = 1) (hn1 : 1 ≤ n) (hn : n < p) :
    1 ≤ n * b % p ∧ bd b sz (Rn p b (n * b % p) sz) = (bd b sz (Rn p b n sz)).drop 1 ++ (bd b sz (Rn p b n sz)).take 1 := by
  obtain ⟨r, rfl⟩ : ∃ r, sz = r + 1 := ⟨sz - 1, by omega⟩
  have hM : b ^ (r + 1) = b * b ^ r := by rw [Nat.pow_succ, Nat.mul_comm]
  have hr0 : 0 < b ^ r := Nat.pow_pos (by omega)
  have hMpos : 0 < b ^ (r + 1) := Nat.pow_pos (by omega)
  have hmod : n * b % p < p := Nat.mod_lt _ (by omega)
  have hback : n * b % p * b ^ r % p = n := by
    rw [Nat.mod_mul_mod, Nat.mul_assoc, ← hM, Nat.mul_mod, h, Nat.mul_one, Nat.mod_mod, Nat.mod_eq_of_lt hn]
  have hn'1 : 1 ≤ n * b % p := by
    rcases Nat.eq_zero_or_pos (n * b % p) with h0 | h0
    · rw [h0] at hback; simp at hback; omega
    · exact h0
  refine ⟨hn'1, ?_⟩
  have hge : n ≤ n * b % p * b ^ r := by
    have := Nat.mod_le (n * b % p * b ^ r) p
    omega
  have hdm := Nat.div_add_mod (n * b) p
  have hR := rn_mul (n := n) hp h
  have hR' := rn_mul (n := n * b % p) hp h
  have hRlt := rn_lt (n := n) hp hb h hn
  have hR'lt := rn_lt (n := n * b % p) hp hb h hmod
  generalize hd : n * b / p = d at *
  generalize hn' : n * b % p = n' at *
  generalize hRe : Rn p b n (r + 1) = R at *
  generalize hRe' : Rn p b n' (r + 1) = R' at *
  obtain ⟨M, hMe⟩ : ∃ M, b ^ (r + 1) = M + 1 := ⟨_, (Nat.succ_pred_eq_of_pos hMpos).symm⟩
  have hM1 : b ^ (r + 1) - 1 = M := by omega
  rw [hM1] at hR hR'
  -- b R = R' + d M
  have e1 : b * R = R' + d * M := by
    refine Nat.eq_of_mul_eq_mul_right (by omega : 0 < p) ?_
    calc b * R * p = b * (R * p) := Nat.mul_assoc _ _ _
      _ = n * b * M := by rw [hR, ← Nat.mul_assoc, Nat.mul_comm b n]
      _ = (p * d + n') * M := by rw [hdm]
      _ = n' * M + d * M * p := by rw [Nat.add_mul, Nat.mul_comm p d, Nat.mul_right_comm]; omega
      _ = (R' + d * M) * p := by rw [← hR', Nat.add_mul]
  -- d ≤ R'
  have e2 : d ≤ R' := by
    have h1 : n * b ≤ n' * (M + 1) := by
      rw [← hMe, hM, ← Nat.mul_assoc, Nat.mul_right_comm]
      exact Nat.mul_le_mul_right b hge
    rw [Nat.mul_add, Nat.mul_one, ← hdm] at h1
    have h2 : p * d ≤ R' * p := by rw [hR']; omega
    rw [Nat.mul_comm R'] at h2
    exact Nat.le_of_mul_le_mul_left h2 (by omega)
  have hdb : d < b := by
    rw [← hd]
    rw [Nat.div_lt_iff_lt_mul (by omega), Nat.mul_comm b]
    exact Nat.mul_lt_mul_of_pos_right hn (by omega)
  -- R' = b r1 + d, R = d b^r + r1
  have e3 : b * R + d = R' + d * (M + 1) := by rw [e1, Nat.mul_add]; omega
  rw [← hMe, hM, ← Nat.mul_assoc, Nat.mul_comm d b, Nat.mul_assoc] at e3
  have e4 : d * b ^ r ≤ R := by
    have : b * (d * b ^ r) ≤ b * R := by omega
    exact Nat.le_of_mul_le_mul_left this (by omega)
  obtain ⟨r1, hr1⟩ := Nat.exists_eq_add_of_le e4
  have e5 : R' = r1 * b + d := by
    rw [hr1, Nat.mul_add, Nat.mul_comm b r1] at e3
    omega
  have e6 : r1 < b ^ r := by
    have : r1 * b < b ^ r * b := by
      rw [Nat.mul_comm (b ^ r), ← hM]
      omega
    exact Nat.lt_of_mul_lt_mul_right this
  have hP : bd b (r + 1) R = d :: bd b r r1 := by
    have := bd_append hb 1 d r r1 e6
    rw [Nat.add_comm 1 r, ← hr1] at this
    rw [this]
    show [] ++ [d % b] ++ _ = _
    rw [Nat.mod_eq_of_lt hdb]; rfl
  have hP' : bd b (r + 1) R' = bd b r r1 ++ [d] := by
    show bd b r (R' / b) ++ [R' % b] = _
    rw [e5, Nat.mul_comm r1 b, Nat.mul_add_div (by omega), Nat.div_eq_of_lt hdb, Nat.mul_add_mod, Nat.mod_eq_of_lt hdb, Nat.add_zero]
  rw [hP, hP']
  rfl
/-! Num6 -/
theorem totB_congr {b : Nat} {P P' : List Nat} {ln q : Nat} (h : ∀ i, i < q → chunk P ln i = chunk P' ln i) : totB b P ln q = totB b P' ln q := by
  unfold totB
  congr 1
  refine List.map_congr_left fun i hi => ?_
  rw [h i (List.mem_range.mp hi)]
theorem totB_succ (b : Nat) (P : List Nat) (ln q : Nat) : totB b P ln (q + 1) = totB b P ln q + valB b (chunk P ln q) := by
  unfold totB
  rw [List.range_succ, List.map_append, List.sum_append]
  simp
/-- the pieces' sum and the whole number are the same up to multiples of b^ln - 1 -/
theorem tot_val {b : Nat} (hb : 2 ≤ b) (ln : Nat) : ∀ (q : Nat) (P : List Nat), P.length = q * ln → ∃ t, valB b P = totB b P ln q + t * (b ^ ln - 1)
  | 0, P, h => by
    rw [Nat.zero_mul] at h
    rw [List.length_eq_zero_iff.mp h]
    exact ⟨0, by simp [totB, valB]⟩
  | q + 1, P, h => by
    have hB : 0 < b ^ ln := Nat.pow_pos (by omega)
    rw [Nat.add_mul, Nat.one_mul] at h
    have h1 : (P.take (q * ln)).length = q * ln := by rw [List.length_take]; omega
    have h2 : (P.drop (q * ln)).length = ln := by rw [List.length_drop]; omega
    obtain ⟨t, ht⟩ := tot_val hb ln q (P.take (q * ln)) h1
    have e := List.take_append_drop (q * ln) P
    have hc : chunk P ln q = P.drop (q * ln) := by
      unfold chunk
      rw [List.take_of_length_le (by omega)]
    have hlow : totB b P ln q = totB b (P.take (q * ln)) ln q := totB_congr fun i hi => by
      unfold chunk
      rw [List.drop_take, List.take_take]
      congr 1
      have := Nat.mul_le_mul_right ln (Nat.succ_le_of_lt hi)
      rw [Nat.succ_mul] at this
      omega
    refine ⟨t + valB b (P.take (q * ln)), ?_⟩
    rw [totB_succ, hc, hlow]
    conv => lhs; rw [← e]
    rw [valB_append, h2, Nat.add_mul]
    have e2 : valB b (P.take (q * ln)) * b ^ ln = valB b (P.take (q * ln)) * (b ^ ln - 1) + valB b (P.take (q * ln)) := by
      rw [Nat.mul_sub, Nat.mul_one]
      have := Nat.le_mul_of_pos_right (valB b (P.take (q * ln))) hB
      omega
    rw [e2]
    omega
theorem gcd_small : ∀ p ∈ primesQ, ∀ r, r < p → r ≠ 0 → Nat.gcd p r = 1 := by decide +kernel
theorem coprime_of {p x : Nat} (hp : p ∈ primesQ) (hx : x % p ≠ 0) : Nat.Coprime p x := by
  have h1 : ∀ p ∈ primesQ, 2 ≤ p := by decide
  have h2 := gcd_small p hp (x % p) (Nat.mod_lt _ (by have := h1 p hp; omega)) hx
  show Nat.gcd p x = 1
  rw [Nat.gcd_rec, Nat.gcd_comm]
  exact h2
theorem sub_dvd_pow_sub (B q : Nat) (hB : 0 < B) : (B - 1) ∣ B ^ q - 1 := by
  induction q with
  | zero => simp
  | succ q ih =>
    obtain ⟨t, ht⟩ := ih
    have hX : 0 < B ^ q := Nat.pow_pos hB
    refine ⟨t * B + 1, ?_⟩
    rw [Nat.pow_succ]
    have e : B ^ q = (B - 1) * t + 1 := by omega
    rw [e, Nat.add_mul, Nat.one_mul, Nat.mul_add, Nat.mul_assoc]
    omega
theorem pieces {p b n sz : Nat} (W : LawNum p b n sz) (q : Nat) (hq : 2 ≤ q) (hqs : q ≤ sz) (hdiv : sz % q = 0) :
    totB b (bd b sz (Rn p b n sz)) (sz / q) q % (b ^ (sz / q) - 1) = 0 ∧ (q = 2 → totB b (bd b sz (Rn p b n sz)) (sz / q) q = b ^ (sz / q) - 1) := by
  have hall : ∀ p ∈ primesQ, 2 ≤ p := by decide
  have hp2 := hall p W.hp
  have hb2 := W.hb2
  generalize hln : sz / q = ln at *
  have hsz : q * ln = sz := by rw [← hln]; exact Nat.mul_div_cancel' (Nat.dvd_of_mod_eq_zero hdiv)
  have hln1 : 1 ≤ ln := by
    rcases Nat.eq_zero_or_pos ln with h0 | h0
    · rw [h0] at hsz; have := W.hs1; omega
    · exact h0
  have hlt : ln < sz := by
    have : 2 * ln ≤ q * ln := Nat.mul_le_mul_right ln hq
    omega
  have hB1 : 1 < b ^ ln := Nat.one_lt_pow (by omega) (by omega)
  have hR := rn_mul (n := n) hp2 W.hord
  have hRlt := rn_lt (n := n) hp2 hb2 W.hord W.hnp
  have hRpos := rn_pos hp2 hb2 W.hs1 W.hord W.hn1
  generalize hRe : Rn p b n sz = R at *
  have hlen : (bd b sz R).length = q * ln := by rw [bd_length, hsz]
  have hval : valB b (bd b sz R) = R := valB_bd hb2 sz R hRlt
  obtain ⟨t, ht⟩ := tot_val hb2 ln q (bd b sz R) hlen
  rw [hval] at ht
  -- b^ln - 1 divides R
  have hnz : (b ^ ln - 1) % p ≠ 0 := fun h0 => by
    refine W.hmin ln hln1 hlt ?_
    have e := Nat.div_add_mod (b ^ ln - 1) p
    rw [h0, Nat.add_zero] at e
    have e2 : b ^ ln = 1 + p * ((b ^ ln - 1) / p) := by omega
    rw [e2, Nat.add_mul_mod_self_left, Nat.mod_eq_of_lt (by omega)]
  have hdvd : (b ^ ln - 1) ∣ R := by
    have h1 : (b ^ ln - 1) ∣ R * p := by
      rw [hR, ← hsz, Nat.mul_comm q ln, Nat.pow_mul]
      exact Nat.dvd_trans (sub_dvd_pow_sub _ q (by omega)) (Nat.dvd_mul_left _ _)
    exact (Nat.Coprime.symm (coprime_of W.hp hnz)).dvd_of_dvd_mul_right h1
  have hdt : (b ^ ln - 1) ∣ totB b (bd b sz R) ln q := by
    have h1 : (b ^ ln - 1) ∣ totB b (bd b sz R) ln q + t * (b ^ ln - 1) := by rw [← ht]; exact hdvd
    exact (Nat.dvd_add_left (Nat.dvd_mul_left _ _)).mp h1
  refine ⟨Nat.mod_eq_zero_of_dvd hdt, fun hq2 => ?_⟩
  subst hq2
  -- two pieces
  have hdig := bd_lt hb2 sz R
  have hc0 : (chunk (bd b sz R) ln 0).length = ln := by unfold chunk; rw [List.length_take, List.length_drop]; omega
  have hc1 : (chunk (bd b sz R) ln 1).length = ln := by unfold chunk; rw [List.length_take, List.length_drop]; omega
  have hd0 : ∀ d ∈ chunk (bd b sz R) ln 0, d < b := fun d hd => hdig d (List.mem_of_mem_drop (List.mem_of_mem_take hd))
  have hd1 : ∀ d ∈ chunk (bd b sz R) ln 1, d < b := fun d hd => hdig d (List.mem_of_mem_drop (List.mem_of_mem_take hd))
  have hv0 := valB_lt hb2 _ hd0
  have hv1 := valB_lt hb2 _ hd1
  rw [hc0] at hv0
  rw [hc1] at hv1
  have htot : totB b (bd b sz R) ln 2 = valB b (chunk (bd b sz R) ln 0) + valB b (chunk (bd b sz R) ln 1) := by
    rw [totB_succ, totB_succ]
    simp [totB]
  have hwhole : R = valB b (chunk (bd b sz R) ln 0) * b ^ ln + valB b (chunk (bd b sz R) ln 1) := by
    conv => lhs; rw [← hval]
    have e : bd b sz R = chunk (bd b sz R) ln 0 ++ chunk (bd b sz R) ln 1 := by
      unfold chunk
      rw [Nat.zero_mul, List.drop_zero, Nat.one_mul, List.take_of_length_le (l := (bd b sz R).drop ln) (by rw [List.length_drop]; omega), List.take_append_drop]
    conv => lhs; rw [e]
    rw [valB_append, hc1]
  rw [htot] at hdt ⊢
  generalize valB b (chunk (bd b sz R) ln 0) = v0 at *
  generalize valB b (chunk (bd b sz R) ln 1) = v1 at *
  obtain ⟨c, hc⟩ := hdt
  have hMM : b ^ sz = b ^ ln * b ^ ln := by rw [← hsz, Nat.two_mul, Nat.pow_add]
  have hnp := W.hnp
  generalize hBe : b ^ ln = B at *
  have hcl : c < 3 := by
    rcases Nat.lt_or_ge c 3 with h0 | h0
    · exact h0
    · have := Nat.mul_le_mul_left (B - 1) h0
      omega
  have hcases : c = 0 ∨ c = 1 ∨ c = 2 := by omega
  rcases hcases with rfl | rfl | rfl
  · have h0 : v0 = 0 := by omega
    have h1 : v1 = 0 := by omega
    rw [h0, h1] at hwhole
    omega
  · omega
  · exfalso
    have h0 : v0 = B - 1 := by omega
    have h1 : v1 = B - 1 := by omega
    have hRM : R = b ^ sz - 1 := by
      rw [hwhole, h0, h1, hMM]
      obtain ⟨x, rfl⟩ : ∃ x, B = x + 1 := ⟨B - 1, by omega⟩
      simp only [Nat.add_sub_cancel, Nat.mul_add, Nat.mul_one, Nat.add_mul, Nat.one_mul]
      omega
    rw [hRM, Nat.mul_comm] at hR
    have hMp : 0 < b ^ sz - 1 := by omega
    have := Nat.eq_of_mul_eq_mul_right hMp hR
    omega
theorem halves {b : Nat} (hb : 2 ≤ b) : ∀ (h x y : Nat), x + y = b ^ h - 1 → ∀ k, k < h → (bd b h x).getD k 0 + (bd b h y).getD k 0 = b - 1
  | 0, _, _, _, k, hk => absurd hk (Nat.not_lt_zero k)
  | h + 1, x, y, hxy, k, hk => by
    have hB : 0 < b ^ h := Nat.pow_pos (by omega)
    rw [Nat.pow_succ] at hxy
    have hx := Nat.div_add_mod x b
    have hy := Nat.div_add_mod y b
    have hx0 := Nat.mod_lt x (show 0 < b by omega)
    have hy0 := Nat.mod_lt y (show 0 < b by omega)
    generalize hx1 : x / b = x1 at *
    generalize hy1 : y / b = y1 at *
    generalize hx2 : x % b = x0 at *
    generalize hy2 : y % b = y0 at *
    -- x0 + y0 + 1 = b, x1 + y1 + 1 = b^h
    have e1 : b * (x1 + y1) + (x0 + y0 + 1) = b * b ^ h := by
      rw [Nat.mul_add, Nat.mul_comm b (b ^ h)]
      have : 0 < b ^ h * b := Nat.mul_pos hB (by omega)
      omega
    have e2 : x0 + y0 + 1 = b := by
      have hd : b ∣ x0 + y0 + 1 := by
        have : b ∣ b * (x1 + y1) + (x0 + y0 + 1) := by rw [e1]; exact Nat.dvd_mul_right _ _
        exact (Nat.dvd_add_right (Nat.dvd_mul_right _ _)).mp this
      obtain ⟨c, hc⟩ := hd
      have hc1 : c ≠ 0 := fun h0 => by rw [h0] at hc; omega
      have hc2 : c < 2 := by
        rcases Nat.lt_or_ge c 2 with h0 | h0
        · exact h0
        · have := Nat.mul_le_mul_left b h0
          omega
      have : c = 1 := by omega
      rw [this] at hc
      omega
    have e3 : x1 + y1 = b ^ h - 1 := by
      have : b * (x1 + y1 + 1) = b * b ^ h := by rw [Nat.mul_add, Nat.mul_one]; omega
      have := Nat.eq_of_mul_eq_mul_left (by omega : 0 < b) this
      omega
    show ((bd b h (x / b)) ++ [x % b]).getD k 0 + ((bd b h (y / b)) ++ [y % b]).getD k 0 = b - 1
    rw [hx1, hy1, hx2, hy2]
    simp only [List.getD_eq_getElem?_getD]
    rcases Nat.lt_or_ge k h with h0 | h0
    · rw [List.getElem?_append_left (by rw [bd_length]; exact h0), List.getElem?_append_left (by rw [bd_length]; exact h0)]
      have := halves hb h x1 y1 e3 k h0
      simpa only [List.getD_eq_getElem?_getD] using this
    · have : k = h := by omega
      subst this
      rw [List.getElem?_append_right (by rw [bd_length]; exact Nat.le_refl _), List.getElem?_append_right (by rw [bd_length]; exact Nat.le_refl _)]
      simp [bd_length]
      omega
/-! Num7 -/
def ordG (p b : Nat) (l : List Int) (k : Int) : List Int := if b ^ k.toNat % p = 1 then l ++ [k] else l
theorem ordG_grows (p b : Nat) : KPfGrows (ordG p b) := by
  intro l k
  unfold ordG
  split <;> simp
theorem ordG_filter (p b : Nat) : ∀ (ks acc : List Int), ks.foldl (ordG p b) acc = acc ++ ks.filter (fun k => decide (b ^ k.toNat % p = 1))
  | [], acc => by simp
  | k :: ks, acc => by
    rw [List.foldl_cons, ordG_filter p b ks, List.filter_cons]
    unfold ordG
    split <;> simp_all
theorem fermat : ∀ p ∈ primesQ, ∀ r, r < p → r ≠ 0 → r ^ (p - 1) % p = 1 := by decide +kernel
theorem least {P : Nat → Prop} : ∀ m : Nat, (∃ k, 1 ≤ k ∧ k ≤ m ∧ P k) → ∃ k, 1 ≤ k ∧ k ≤ m ∧ P k ∧ ∀ j, 1 ≤ j → j < k → ¬ P j
  | 0, ⟨k, h1, h2, _⟩ => absurd h1 (by omega)
  | m + 1, ⟨k, h1, h2, h3⟩ => by
    by_cases h : ∃ k, 1 ≤ k ∧ k ≤ m ∧ P k
    · obtain ⟨k, a, b, c, d⟩ := least m h
      exact ⟨k, a, by omega, c, d⟩
    · have hk : k = m + 1 := by
        rcases Nat.lt_or_ge k (m + 1) with h0 | h0
        · exact absurd ⟨k, h1, by omega, h3⟩ h
        · omega
      subst hk
      exact ⟨m + 1, h1, Nat.le_refl _, h3, fun j j1 j2 hj => h ⟨j, j1, by omega, hj⟩⟩
theorem order {p b : Nat} (hp : p ∈ primesQ) (hbp : b % p ≠ 0) : ∃ sz, 1 ≤ sz ∧ sz ≤ p - 1 ∧ b ^ sz % p = 1 ∧ ∀ j, 1 ≤ j → j < sz → ¬ b ^ j % p = 1 := by
  have hall : ∀ p ∈ primesQ, 3 ≤ p := by decide
  have hp3 := hall p hp
  refine least (p - 1) ⟨p - 1, by omega, Nat.le_refl _, ?_⟩
  rw [Nat.pow_mod]
  exact fermat p hp (b % p) (Nat.mod_lt _ (by omega)) hbp
theorem order_list {p b sz : Nat} (h1 : 1 ≤ sz) (h2 : sz ≤ p - 1) (h3 : b ^ sz % p = 1) (h4 : ∀ j, 1 ≤ j → j < sz → ¬ b ^ j % p = 1) :
    ∃ rest, (rangeKs 1 (p - 1)).foldl (ordG p b) [] = (sz : Int) :: rest := by
  rw [ordG_filter, List.nil_append]
  unfold rangeKs
  have e : List.range (p - 1) = List.range (sz - 1) ++ (sz - 1) :: (List.range (p - 1 - sz)).map (fun i => sz + i) := by
    have e1 : p - 1 = (sz - 1) + ((p - 1 - sz) + 1) := by omega
    conv => lhs; rw [e1]
    rw [List.range_add, List.range_succ_eq_map, List.map_cons, List.map_map]
    congr 2
    refine List.map_congr_left fun i _ => ?_
    simp only [Function.comp]
    omega
  rw [e, List.map_append, List.filter_append, List.map_cons, List.filter_cons]
  have hnil : ((List.range (sz - 1)).map fun (i : Nat) => (1 : Int) + (i : Int)).filter (fun k => decide (b ^ k.toNat % p = 1)) = [] := by
    rw [List.filter_eq_nil_iff]
    intro k hk
    obtain ⟨i, hi, rfl⟩ := List.mem_map.mp hk
    have hi' := List.mem_range.mp hi
    have ht : ((1 : Int) + (i : Int)).toNat = i + 1 := by omega
    rw [ht, decide_eq_true_eq]
    exact h4 (i + 1) (by omega) (by omega)
  have ht : ((1 : Int) + ((sz - 1 : Nat) : Int)).toNat = sz := by omega
  rw [hnil, List.nil_append, ht, if_pos (by simpa using h3)]
  have hz : (1 : Int) + ((sz - 1 : Nat) : Int) = (sz : Int) := by omega
  rw [hz]
  exact ⟨_, rfl⟩
theorem half_digits {p b n sz : Nat} (W : LawNum p b n sz) (h2 : sz % 2 = 0) : ∀ k, k < sz / 2 → (bd b sz (Rn p b n sz)).getD k 0 + (bd b sz (Rn p b n sz)).getD (k + sz / 2) 0 = b - 1 := by
  intro k hk
  have hs1 := W.hs1
  have hb2 := W.hb2
  obtain ⟨_, htwo⟩ := pieces W 2 (Nat.le_refl _) (by omega) h2
  replace htwo := htwo rfl
  have hdig := bd_lt hb2 sz (Rn p b n sz)
  have hlen := bd_length b sz (Rn p b n sz)
  generalize bd b sz (Rn p b n sz) = P at *
  generalize hh : sz / 2 = h at *
  have hsz : sz = h + h := by omega
  have htot : totB b P h 2 = valB b (chunk P h 0) + valB b (chunk P h 1) := by
    rw [totB_succ, totB_succ]
    simp [totB]
  rw [htot] at htwo
  have hc0 : chunk P h 0 = P.take h := by simp [chunk]
  have hc1 : chunk P h 1 = P.drop h := by
    unfold chunk
    rw [Nat.one_mul, List.take_of_length_le (by rw [List.length_drop]; omega)]
  rw [hc0, hc1] at htwo
  have l0 : (P.take h).length = h := by rw [List.length_take]; omega
  have l1 : (P.drop h).length = h := by rw [List.length_drop]; omega
  have b0 := bd_valB hb2 (P.take h) fun d hd => hdig d (List.mem_of_mem_take hd)
  have b1 := bd_valB hb2 (P.drop h) fun d hd => hdig d (List.mem_of_mem_drop hd)
  rw [l0] at b0
  rw [l1] at b1
  have := halves hb2 h _ _ htwo k hk
  rw [b0, b1] at this
  rw [← this]
  simp only [List.getD_eq_getElem?_getD]
  rw [List.getElem?_take_of_lt hk, List.getElem?_drop, Nat.add_comm h k]
/-! H1 -/
set_option maxRecDepth 100000 in
set_option maxHeartbeats 8000000 in
open_top hd for PySem.Challenge.rw_aw5006_01
/-! Law0 -/
noncomputable def lawFD : List Stmt × Scope := match PySem.Challenge.pw_aw5006_01.main.body.getLast? with
  | some (.FunctionDef _ _ b _ _ _ sc _ _ _) => (b, sc)
  | _ => ([], default)
noncomputable def lawB : List Stmt := lawFD.1
noncomputable def lawSc : Scope := lawFD.2
/-! S1 -/
abbrev stdD : PySem.Str := PySem.Str.ofString "0123456789abcdefghijklmnopqrstuvwxyz"
def Told (f : Addr) (k : Nat) (vs : List Value) (x : PySem.Str) : Prop :=
  ∀ (w : World) (mg mb : PySem.Str → Option Value) (mean : ExcName → Option Value) (news : List (Addr × Obj)) (dp un : Nat) (gd : Option (List Code)) (cn : PySem.Str) (cs : Scope) (a : Addr) (ccd : Value) (cl : List (PySem.Str × Addr)) (outer : List Env) (A₀ : Around) (base h₀ : Heap) (L : Addr) (m : PySem.Str → Option Value) (s : Shared) (Q E : Value → Shared → Prop),
    Below A₀ base outer h₀ → Fr h₀ L s.heap m → (hd.heap_39 w.params).In h₀ → News h₀ L s.heap news → Top hd.view_39 (looseW hd.view_39 [PySem.Str.ofString "small_numeral", PySem.Str.ofString "numeral"]) mean mg mb h₀ → cs.kind = .function →
    dp + k < recursionLimit → un + 8 * k < cLine → (∀ (t : Tok) (h' : Heap) (tk' : Nat), Fr h₀ L h' m → News h₀ L h' news → Q (.str x t) { s with heap := h', toks := tk' }) →
      wpAny (model PySem.Challenge.rw_aw5006_01.row.prog w) (ktrTop dp un gd cn cs L a ccd cl outer) (call (.ref f) vs) Q E s
set_option maxRecDepth 100000 in
set_option maxHeartbeats 8000000 in
theorem small_told (n b : Nat) (tn tb td : Tok) (hn : 0 < n) (hb2 : 2 ≤ b) (hb36 : b ≤ 36) (hsz : n < 2 ^ 1900) :
   Told 22 1 [.int n tn, .int b tb, .str stdD td] (tx (ds b n)) := by
  unfold Told
  k_fill
  w_top off
  intro w mg mb mean news dp un gd cn cs a ccd cl outer A₀ base h₀ L m s Q E B F X N T hk hdp hun hret
  refine wpAny_call ?_
  (k_dflt (refine' code_def (binds := [(PySem.Str.ofString "n", Value.int n tn), (PySem.Str.ofString "base", Value.int b tb), (PySem.Str.ofString "digits", Value.str stdD td)]) ?k1 ?k2 ?k3 ?k4 ?k5 ?kA ?kF ?kK ?k6 ?k7 ?k8 ?k9 ?kB ?_ ?c2 ?c3 ?c4 ?c5; (case kA => exact rfl); (case kF => exact rfl); (case kK => assumption); (case k1 => k_asm); (case k2 => k_asm); (case k3 => k_asm); (case k4 => k_asm); (case k5 => k_asm); (case k6 => k_is); (case k7 => k_is); (case k8 => ktr_room); (case k9 => first | exact BindsTo.of_eq rfl | exact binds_K (by k_in) rfl (by k_is) rfl rfl rfl); (case c5 => decide); (case kB => exact locs rfl); (case c2 => exact rfl); (case c3 => exact rfl); (case c4 => exact rfl); k_whole; intro g' L' h' FG' F' N' B' X' T'; (try dsimp only); (try k_lift B'); (try k_fold)))
  iterate 9 (walk_at "kstep")
  · iterate 10 (walk_at "kstep")
    walk_at "kstep"
    walk_at "kstep"
    rename News _ _ _ _ => kN
    rename Fr _ _ _ _ => kF
    have hb10 : b = 10 := by omega
    subst hb10
    rw [str_ds n hn]
    exact hret _ _ _ kF kN
  · iterate 10 (walk_at "kstep")
    rename_i D hh1 l1 hh2 lF lN
    with_unfolding_all refine' ksw_while (σ := Nat × Tok × List (PySem.Str × Tok) × Nat) (fun c => (D, listOf (strValues c.2.2.1).toArray c.2.2.2) :: news) (fun c => [(PySem.Str.ofString "n", .int c.1 c.2.1)]) (fun _ => True) [PySem.Str.ofString "digit"] (fun c => (ds b c.1).map one ++ (c.2.2.1.map (·.1)).reverse = (ds b n).map one) (fun c => c.1) (n, tn, [], 0) ?kF ?kN trivial ?hk ?hp ?turn ?hE
    case kF => exact lF
    case kN => exact lN
    case hk => kst_all
    case hE => first | passes_own | with_unfolding_all passes_own
    case hp => simp
    clear lF lN
    rintro ⟨k, tk1, l, cnt⟩ u hh tk2 - hP lF lN
    dsimp only at hP lF lN ⊢
    (try k_fold)
    have hlen : l.length ≤ 1900 := by
      have h1 := congrArg List.length hP
      simp only [List.length_append, List.length_map, List.length_reverse, ds, bd_length] at h1
      have h2 : nd b n ≤ 1900 := nd_le hb2 (Nat.lt_of_lt_of_le hsz (Nat.pow_le_pow_left hb2 1900))
      omega
    have hfd : (k : Int).fdiv (b : Int) = ((k / b : Nat) : Int) := by
      rw [Int.fdiv_eq_ediv_of_nonneg _ (by omega)]; rfl
    have hfm : (k : Int).fmod (b : Int) = ((k % b : Nat) : Int) := by
      rw [Int.fmod_eq_emod_of_nonneg _ (by omega)]; rfl
    have hkb : k % b < b := Nat.mod_lt _ (by omega)
    iterate 5 (walk_at "kstep")
    · iterate 18 (walk_at "kstep")
      rename Fr _ _ _ _ => lF2
      rename News _ _ _ _ => lN2
      simp only [hfd, hfm] at lF2 lN2
      dsimp only
      iterate 9 (walk_at "kstep")
      iterate 3 (walk_at "kstep")
      rename Nat => tkA
      have hstd : stdD.length = 36 := by decide
      refine item_str (fitsSsize_of (N := 9223372036854775808) (by omega) (by omega) (Int.le_refl _)) (by omega) (by omega) (fun _ => ?_)
      rw [item_std (k % b) (by omega)]
      dsimp only
      iterate 1 (walk_at "kstep")
      have lN3 := cb_drop lN2 (news := (D, listOf (strValues l).toArray cnt) :: news) (fun p hp => List.mem_cons_of_mem _ hp)
      clear lN2
      refine append_K lF2 lN3 (.head fun p hp => Nat.ne_of_lt (l1 p hp)) (fun h9 F9 N9 => ?_) (by rw [sizeLine_eq]; simp [strValues]; omega)
      iterate 3 (walk_at "kstep")
      refine ksw_end (k / b, tk2, l ++ [(one (k % b), tkA)], cnt + 1) F9 N9 ?_ trivial ?_ ?_ ?_ ?_
      · intro p hp
        simpa [strValues] using hp
      · kst_all
      · intro z h2 h3
        have e1 : z ≠ PySem.Str.ofString "n" := h2 _ (.head _)
        have e2 : z ≠ PySem.Str.ofString "digit" := by simpa using h3
        simp [e1, e2, kstB]
      · dsimp only
        rw [ds_pos hb2 (by omega : 0 < k)] at hP
        rw [← hP]
        simp
      · exact Nat.div_lt_self (by omega) (by omega)
    · have hk0 : k = 0 := by omega
      subst hk0
      rw [ds_zero] at hP
      iterate 16 (walk_at "kstep")
      k_dflt (refine' krv_lit (zs := strValues l.reverse) ?F ?N ?l ?k ?e ?_ ?s ?t ?z; (case F => k_asm); (case N => k_asm); (case l => exact News.isList (by assumption) (.head _)); (case k => exact IsPart.int _ _); (case e => simp [strValues]); (case s => with_unfolding_all rfl); (case t => kmk_pure); (case z => (rw [sizeLine_eq]; simp [strValues]; omega)); intro D' h9 F9 N9 l9)
      iterate 1 (walk_at "kstep")
      have hj : (l.reverse.map (·.1)) = (ds b n).map one := by
        rw [← hP]; simp
      refine SC.join (l := l.reverse) (News.isList N9 (.head _)) hj (joinOk_ones _ ?_) ?_
      · have h1 := congrArg List.length hj
        simp at h1
        omega
      intro t9 k9
      rw [glued_ones]
      iterate 2 (walk_at "kstep")
      rename News _ _ _ _ => kN
      rename Fr _ _ _ _ => kF
      exact hret _ _ _ kF (cb_drop kN fun p hp => .tail _ (.tail _ hp))
/-! S2 -/
set_option maxRecDepth 100000 in
set_option maxHeartbeats 8000000 in
theorem numeral_small (n b size : Nat) (tn tb ts td : Tok) (hb2 : 2 ≤ b) (hb36 : b ≤ 36) (hsz : n < 2 ^ 1900) (hs : size < 250) (vs : List Value)
   (hvs : vs = [.int n tn, .int b tb, .int size ts, .str stdD td] ∨ (vs = [.int n tn, .int b tb, .int size ts] ∧ td = 189)) :
   Told 30 2 vs (nums b n) := by
  unfold Told
  k_fill
  w_top off
  intro w mg mb mean news dp un gd cn cs a ccd cl outer A₀ base h₀ L m s Q E B F X N T hk hdp hun hret
  refine wpAny_call ?_
  (k_dflt (refine' code_def (binds := [(PySem.Str.ofString "n", Value.int n tn), (PySem.Str.ofString "base", Value.int b tb), (PySem.Str.ofString "size", Value.int size ts), (PySem.Str.ofString "digits", Value.str stdD td)]) ?k1 ?k2 ?k3 ?k4 ?k5 ?kA ?kF ?kK ?k6 ?k7 ?k8 ?k9 ?kB ?_ ?c2 ?c3 ?c4 ?c5; (case kA => exact rfl); (case kF => exact rfl); (case kK => assumption); (case k1 => k_asm); (case k2 => k_asm); (case k3 => k_asm); (case k4 => k_asm); (case k5 => k_asm); (case k6 => k_is); (case k7 => k_is); (case k8 => ktr_room); (case k9 => (rcases hvs with rfl | ⟨rfl, rfl⟩ <;> exact binds_K (by k_in) rfl (by k_is) rfl rfl rfl)); (case c5 => decide); (case kB => exact locs rfl); (case c2 => exact rfl); (case c3 => exact rfl); (case c4 => exact rfl); k_whole; intro g' L' h' FG' F' N' B' X' T'; (try dsimp only); (try k_lift B'); (try k_fold)))
  iterate 9 (walk_at "kstep")
  · iterate 9 (walk_at "kstep")
    · exfalso; omega
    · repeat (walk_at "kstep")
      rename News _ _ _ _ => kN
      rename Fr _ _ _ _ => kF
      have h0 : n = 0 := by omega
      subst h0
      exact hret _ _ _ kF kN
  · iterate 23 (walk_at "kstep")
    refine ⟨by k_in, ?_⟩
    refine small_told n b _ _ _ (by omega) hb2 hb36 hsz w mg mb mean news _ _ _ _ _ _ _ _ _ _ _ _ _ _ _ _ _ B' F' X' N' T' rfl (by ktr_room) (by ktr_units) (fun t9 h9 tk9 F9 N9 => ?_)
    iterate 2 (walk_at "kstep")
    rename News _ _ _ _ => kN
    rename Fr _ _ _ _ => kF
    have e : nums b n = tx (ds b n) := if_neg (by omega)
    rw [e] at hret
    exact hret _ _ _ kF kN
/-! S2b -/
set_option maxRecDepth 100000 in
set_option maxHeartbeats 8000000 in
theorem numeral_big (n b size : Nat) (tn tb ts td : Tok) (hb2 : 2 ≤ b) (hb36 : b ≤ 36) (hsz : n < 2 ^ 1900) (hn : 0 < n) (hs : 250 ≤ size) (hs2 : size ≤ 400) (vs : List Value)
   (hvs : vs = [.int n tn, .int b tb, .int size ts, .str stdD td] ∨ (vs = [.int n tn, .int b tb, .int size ts] ∧ td = 189)) :
   Told 30 3 vs (nums b (n / b ^ (size / 2 + size % 2)) ++ Txt.rjustF (nums b (n % b ^ (size / 2 + size % 2))) ((size / 2 + size % 2 : Nat) : Int) 48) := by
  unfold Told
  k_fill
  w_top off
  intro w mg mb mean news dp un gd cn cs a ccd cl outer A₀ base h₀ L m s Q E B F X N T hk hdp hun hret
  refine wpAny_call ?_
  (k_dflt (refine' code_def (binds := [(PySem.Str.ofString "n", Value.int n tn), (PySem.Str.ofString "base", Value.int b tb), (PySem.Str.ofString "size", Value.int size ts), (PySem.Str.ofString "digits", Value.str stdD td)]) ?k1 ?k2 ?k3 ?k4 ?k5 ?kA ?kF ?kK ?k6 ?k7 ?k8 ?k9 ?kB ?_ ?c2 ?c3 ?c4 ?c5; (case kA => exact rfl); (case kF => exact rfl); (case kK => assumption); (case k1 => k_asm); (case k2 => k_asm); (case k3 => k_asm); (case k4 => k_asm); (case k5 => k_asm); (case k6 => k_is); (case k7 => k_is); (case k8 => ktr_room); (case k9 => (rcases hvs with rfl | ⟨rfl, rfl⟩ <;> exact binds_K (by k_in) rfl (by k_is) rfl rfl rfl)); (case c5 => decide); (case kB => exact locs rfl); (case c2 => exact rfl); (case c3 => exact rfl); (case c4 => exact rfl); k_whole; intro g' L' h' FG' F' N' B' X' T'; (try dsimp only); (try k_lift B'); (try k_fold)))
  have hfd : (size : Int).fdiv 2 = ((size / 2 : Nat) : Int) := by
    rw [Int.fdiv_eq_ediv_of_nonneg _ (by omega)]; rfl
  have hand : Builtin.bitAnd (size : Int) 1 = ((size % 2 : Nat) : Int) := by
    rw [bitAnd_m1]; omega
  iterate 30 (walk_at "kstep")
  refine and_int ?_
  rw [hand, hfd]
  dsimp only
  refine add_int ?_
  rw [← Int.natCast_add]
  generalize hH : size / 2 + size % 2 = half at *
  have hH2 : half ≤ 200 := by omega
  have hH1 : 125 ≤ half := by omega
  iterate 14 (walk_at "kstep")
  have hpw : (b : Int) ^ (half : Int).toNat = ((b ^ half : Nat) : Int) := by simp
  rw [hpw]
  have hppos : 0 < b ^ half := Nat.pow_pos (by omega)
  have hfd2 : (n : Int).fdiv ((b ^ half : Nat) : Int) = ((n / b ^ half : Nat) : Int) := by
    rw [Int.fdiv_eq_ediv_of_nonneg _ (by omega)]; rfl
  have hfm2 : (n : Int).fmod ((b ^ half : Nat) : Int) = ((n % b ^ half : Nat) : Int) := by
    rw [Int.fmod_eq_emod_of_nonneg _ (by omega)]; rfl
  have hA : n / b ^ half < 2 ^ 1900 := Nat.lt_of_le_of_lt (Nat.div_le_self _ _) hsz
  have hB : n % b ^ half < 2 ^ 1900 := Nat.lt_of_le_of_lt (Nat.mod_le _ _) hsz
  have hbits : ((b ^ half : Nat) : Int).natAbs.log2 < 9000 := by
    rw [Int.natAbs_natCast]
    refine (Nat.log2_lt (by omega)).mpr ?_
    calc b ^ half ≤ 64 ^ half := Nat.pow_le_pow_left (by omega) _
      _ ≤ 64 ^ 200 := Nat.pow_le_pow_right (by decide) hH2
      _ = 2 ^ (6 * 200) := by rw [Nat.pow_mul]
      _ < 2 ^ 9000 := Nat.pow_lt_pow_right (by decide) (by decide)
  iterate 1 (walk_at "kstep")
  refine divmod_N (by assumption) (by assumption) (by omega) (fun h3 F3 N3 => ?_) (Or.inl (PyProof.noPylong_of_log2 hbits))
  rw [hfd2, hfm2] at N3
  iterate 10 (walk_at "kstep")
  iterate 13 (walk_at "kstep")
  rename News _ _ _ _ => N4
  rename Fr _ _ _ _ => F4
  have N5 := cb_drop N4 (news := news) (fun p hp => .tail _ hp)
  clear N4
  refine ⟨by k_in, ?_⟩
  refine numeral_small (n / b ^ half) b half _ _ _ _ hb2 hb36 hA (by omega) _ (.inl rfl) w mg mb mean news _ _ _ _ _ _ _ _ _ _ _ _ _ _ _ _ _ B' F4 X' N5 T' rfl (by ktr_room) (by ktr_units) (fun t9 h9 tk9 F9 N9 => ?_)
  clear F4 N5
  iterate 17 (walk_at "kstep")
  rename News _ _ _ _ => N4
  rename Fr _ _ _ _ => F4
  refine ⟨by k_in, ?_⟩
  refine numeral_small (n % b ^ half) b half _ _ _ _ hb2 hb36 hB (by omega) _ (.inl rfl) w mg mb mean news _ _ _ _ _ _ _ _ _ _ _ _ _ _ _ _ _ B' F4 X' N4 T' rfl (by ktr_room) (by ktr_units) (fun t8 h8 tk8 F8 N8 => ?_)
  clear F4 N4
  iterate 8 (walk_at "kstep")
  have hl1 := nums_len hb2 hA
  have hl2 := nums_len hb2 hB
  have hl3 := @rjustF_len (nums b (n % b ^ half)) half 48
  iterate 7 (walk_at "kstep")
  have h48 : (PySem.Str.ofString "0").cps.getD 0 0 = 48 := by decide
  rw [h48]
  refine PyProof.Rows.add_str (fun t7 k7 => ?_) (by rw [sizeLine_eq]; omega)
  repeat (walk_at "kstep")
  rename News _ _ _ _ => kN
  rename Fr _ _ _ _ => kF
  exact hret _ _ _ kF kN
/-! S3 -/
theorem Told.mono {f : Addr} {j k : Nat} {vs : List Value} {x : PySem.Str} (h : Told f j vs x) (hjk : j ≤ k) : Told f k vs x := by
  intro w mg mb mean news dp un gd cn cs a ccd cl outer A₀ base h₀ L m s Q E B F X N T hk hdp hun hret
  exact h w mg mb mean news dp un gd cn cs a ccd cl outer A₀ base h₀ L m s Q E B F X N T hk (by omega) (by omega) hret
theorem numeral_any (b k R : Nat) (hb2 : 2 ≤ b) (hb36 : b ≤ 36) (hk1 : 1 ≤ k) (hk2 : k ≤ 300) (hpos : 0 < R) (hR : R < b ^ k) (hR2 : R < 2 ^ 1900) :
    ∃ x, (∀ t1 t2 t3, Told 30 3 [.int R t1, .int b t2, .int k t3] x) ∧ Txt.rjustF x (k : Int) 48 = tx (bd b k R) := by
  by_cases h : k < 250
  · exact ⟨_, fun t1 t2 t3 => (numeral_small R b k t1 t2 t3 189 hb2 hb36 hR2 h _ (.inr ⟨rfl, rfl⟩)).mono (by decide), rjust_small hb2 hR hk1⟩
  · exact ⟨_, fun t1 t2 t3 => numeral_big R b k t1 t2 t3 189 hb2 hb36 hR2 hpos (by omega) (by omega) _ (.inr ⟨rfl, rfl⟩), rjust_big hb2 hR (by omega) (by omega)⟩
set_option maxRecDepth 100000 in
set_option maxHeartbeats 8000000 in
theorem figures_told (N p b k : Nat) (tN tp tb tk : Tok) (hb2 : 2 ≤ b) (hb36 : b ≤ 36) (hp : 0 < p) (hp2 : p < 1000) (hN : N < 1000) (hk1 : 1 ≤ k) (hk2 : k ≤ 300)
   (hpos : 0 < N * (b ^ k - 1) / p) (hR : N * (b ^ k - 1) / p < b ^ k) :
   Told 39 4 [.int N tN, .int p tp, .int b tb, .int k tk] (tx (bd b k (N * (b ^ k - 1) / p))) := by
  unfold Told
  k_fill
  w_top off
  intro w mg mb mean news dp un gd cn cs a ccd cl outer A₀ base h₀ L m s Q E B F X N₀ T hk hdp hun hret
  refine wpAny_call ?_
  (k_dflt (refine' code_def (binds := [(PySem.Str.ofString "numerator", Value.int N tN), (PySem.Str.ofString "prime", Value.int p tp), (PySem.Str.ofString "base", Value.int b tb), (PySem.Str.ofString "many", Value.int k tk)]) ?k1 ?k2 ?k3 ?k4 ?k5 ?kA ?kF ?kK ?k6 ?k7 ?k8 ?k9 ?kB ?_ ?c2 ?c3 ?c4 ?c5; (case kA => exact rfl); (case kF => exact rfl); (case kK => assumption); (case k1 => k_asm); (case k2 => k_asm); (case k3 => k_asm); (case k4 => k_asm); (case k5 => k_asm); (case k6 => k_is); (case k7 => k_is); (case k8 => ktr_room); (case k9 => first | exact BindsTo.of_eq rfl | exact binds_K (by k_in) rfl (by k_is) rfl rfl rfl); (case c5 => decide); (case kB => exact locs rfl); (case c2 => exact rfl); (case c3 => exact rfl); (case c4 => exact rfl); k_whole; intro g' L' h' FG' F' N' B' X' T'; (try dsimp only); (try k_lift B'); (try k_fold)))
  iterate 20 (walk_at "kstep")
  have hval : ((N : Int) * ((b : Int) ^ (k : Int).toNat - 1)).fdiv (p : Int) = ((N * (b ^ k - 1) / p : Nat) : Int) := by
    have h1 : 1 ≤ b ^ k := Nat.pow_pos (by omega)
    rw [Int.fdiv_eq_ediv_of_nonneg _ (by omega), Int.toNat_natCast, Int.natCast_ediv, Int.natCast_mul, Int.natCast_sub h1, Int.natCast_pow]
    rfl
  dsimp only
  refine floordiv_int (by omega) ?_ (Or.inl (PyProof.noPylong_small (by omega)))
  rw [hval]
  have hbk : b ^ k < 2 ^ 1900 := calc
    b ^ k ≤ 64 ^ k := Nat.pow_le_pow_left (by omega) _
    _ ≤ 64 ^ 300 := Nat.pow_le_pow_right (by decide) hk2
    _ = 2 ^ (6 * 300) := by rw [Nat.pow_mul]
    _ < 2 ^ 1900 := Nat.pow_lt_pow_right (by decide) (by decide)
  generalize hRR : N * (b ^ k - 1) / p = R at *
  have hR2 : R < 2 ^ 1900 := Nat.lt_trans hR hbk
  iterate 6 (walk_at "kstep")
  obtain ⟨x, hx, hxr⟩ := numeral_any b k R hb2 hb36 hk1 hk2 hpos hR hR2
  refine hx _ _ _ w mg mb mean news _ _ _ _ _ _ _ _ _ _ _ _ _ _ _ _ _ B' (by assumption) (by k_in) (by assumption) T' rfl (by ktr_room) (by ktr_units) (fun t9 h9 tk9 F9 N9 => ?_)
  iterate 8 (walk_at "kstep")
  have h48 : (PySem.Str.ofString "0").cps.getD 0 0 = 48 := by decide
  rw [h48, hxr]
  repeat (walk_at "kstep")
  rename News _ _ _ _ => kN
  rename Fr _ _ _ _ => kF
  exact hret _ _ _ kF kN
/-! L0 -/
noncomputable abbrev lawEnv (L fa : Addr) (ccd : Value) : Env := envOfC (PySem.Str.ofString "law") lawSc L fa ccd
noncomputable abbrev lawA (dp un : Nat) (gd : Option (List Code)) (L fa : Addr) (ccd : Value) (outer : List Env) : Around := ktrTop dp un gd (PySem.Str.ofString "law") lawSc L fa ccd (cellsFrom (L + 1) lawSc.names []) outer
set_option maxRecDepth 100000 in
set_option maxHeartbeats 8000000 in
theorem seg0 (w : World) (mg mb : PySem.Str → Option Value) (mean : ExcName → Option Value) (dp un : Nat) (gd : Option (List Code)) (fa : Addr) (ccd : Value) (outer : List Env) (A₀ : Around) (base h₀ : Heap) (L : Addr) (m : PySem.Str → Option Value) (s : Shared) (Q : Flow → Shared → Prop) (E : Value → Shared → Prop)
    (B : Below A₀ base outer h₀) (X : (hd.heap_39 w.params).In h₀) (T : Top hd.view_39 (looseW hd.view_39 [PySem.Str.ofString "small_numeral", PySem.Str.ofString "numeral"]) mean mg mb h₀)
    (l : Addr) (vs : List Value) (ns : List Int) (hl : h₀.IsList l vs.toArray) (hi : IntsAre vs ns) (hlen : ns.length ≤ 63)
    (o6 o5 o4 o3 o2 o1 : Obj) (h1 : o1.data = .cell (some (.ref l)))
    (F : Fr h₀ L s.heap m) (N : News h₀ L s.heap [(L + 1 + 1 + 1 + 1 + 1 + 1, o6), (L + 1 + 1 + 1 + 1 + 1, o5), (L + 1 + 1 + 1 + 1, o4), (L + 1 + 1 + 1, o3), (L + 1 + 1, o2), (L + 1, o1)])
    (next : ∀ (d0 d1 d2 : Int) (ys : List Value) (D : Addr) (h' : Heap) (tk' : Nat), LCg.Off1 D [(L + 1 + 1 + 1 + 1 + 1 + 1, o6), (L + 1 + 1 + 1 + 1 + 1, o5), (L + 1 + 1 + 1 + 1, o4), (L + 1 + 1 + 1, o3), (L + 1 + 1, o2), (L + 1, o1)] → IntsAre ys [d0, d1, d2] → Fr h₀ L h' (fun y => if y = PySem.Str.ofString "draw" then some (.ref D) else m y) →
      News h₀ L h' [(D, LCg.lst ys), (L + 1 + 1 + 1 + 1 + 1 + 1, o6), (L + 1 + 1 + 1 + 1 + 1, o5), (L + 1 + 1 + 1 + 1, o4), (L + 1 + 1 + 1, o3), (L + 1 + 1, o2), (L + 1, o1)] →
      wpAny (model PySem.Challenge.rw_aw5006_01.row.prog w) (lawA dp un gd L fa ccd outer) (execs (lawB.drop 1) (lawEnv L fa ccd)) Q E { s with heap := h', toks := tk' }) :
    wpAny (model PySem.Challenge.rw_aw5006_01.row.prog w) (lawA dp un gd L fa ccd outer) (execs (lawB.drop 0) (lawEnv L fa ccd)) Q E s := by
  revert X
  k_fill
  w_top off
  intro X
  have e : ∀ x, x = lawB.drop 0 → wpAny (model PySem.Challenge.rw_aw5006_01.row.prog w) (lawA dp un gd L fa ccd outer) (execs x (lawEnv L fa ccd)) Q E s := by
    intro x hx
    conv at hx => rhs; whnf
    subst hx
    have hM : KPfMark := trivial
    refine wpAny_execs_cons ?_
    k_dflt (refine LCg.Assign_ListComp_U (F₀ := F) (by rfl) (by with_unfolding_all rfl) (by with_unfolding_all rfl) (by decide) (by rfl) (by decide) (by rfl) (by rfl) (by rfl) ?_)
    iterate 7 (walk_at "kstep")
    rename IsRange _ _ _ _ _ _ _ _ => rgX
    rename Fr _ _ _ _ => F1
    rename News _ _ _ _ => N1
    refine LCg.CompSrc.range (n := 3) rfl F1 N1 rgX (by decide) (by rfl) (by decide) (fun g => kcf_range (fun k => if k < (ns.length : Int) then ns.getD k.toNat 0 else [2, 8, 0].getD k.toNat 0) ?turn ?fin)
    case fin =>
      unfold KPfDone LCg.FinA
      intro ys hys D h' tk' F' N' o1'
      have e3 : (rangeKs 0 3).map (fun k => if k < (ns.length : Int) then ns.getD k.toNat 0 else [2, 8, 0].getD k.toNat 0) = [if (0 : Int) < (ns.length : Int) then ns.getD (0 : Int).toNat 0 else [2, 8, 0].getD (0 : Int).toNat 0, if (1 : Int) < (ns.length : Int) then ns.getD (1 : Int).toNat 0 else [2, 8, 0].getD (1 : Int).toNat 0, if (2 : Int) < (ns.length : Int) then ns.getD (2 : Int).toNat 0 else [2, 8, 0].getD (2 : Int).toNat 0] := rfl
      rw [e3] at hys
      exact next _ _ _ ys D h' tk' o1' hys F' N'
    case turn =>
      intro k t I oI C oC D m₂ ys h tk E' hk1 hk2 hC hx FF NN off ne mk
      dsimp only
      iterate 12 (walk_at "kstep")
      have hlk : vs.length = ns.length := hi.length
      split
      · rename_i hlt
        have hlt' : k < (ns.length : Int) := by simpa using hlt
        iterate 5 (walk_at "kstep")
        exact kcf_el (if_pos hlt') rfl rfl
      · rename_i hlt
        have hlt' : ¬ k < (ns.length : Int) := by simpa using hlt
        iterate 5 (walk_at "kstep")
        exact kcf_el (if_neg hlt') rfl rfl
  exact e _ rfl
/-! L1 -/
abbrev primesL : List Nat := [3, 5, 7, 11, 13, 17, 19, 23, 29, 31, 37, 41, 43, 47]
set_option maxRecDepth 100000 in
set_option maxHeartbeats 8000000 in
theorem seg1 (w : World) (mg mb : PySem.Str → Option Value) (mean : ExcName → Option Value) (dp un : Nat) (gd : Option (List Code)) (fa : Addr) (ccd : Value) (outer : List Env) (A₀ : Around) (base h₀ : Heap) (L : Addr) (m : PySem.Str → Option Value) (s : Shared) (Q : Flow → Shared → Prop) (E : Value → Shared → Prop)
    (B : Below A₀ base outer h₀) (X : (hd.heap_39 w.params).In h₀) (T : Top hd.view_39 (looseW hd.view_39 [PySem.Str.ofString "small_numeral", PySem.Str.ofString "numeral"]) mean mg mb h₀)
    (d0 d1 d2 : Int) (ys : List Value) (D : Addr) (hys : IntsAre ys [d0, d1, d2])
    (o6 o5 o4 o3 o2 o1 : Obj) (hD : LCg.Off1 D [(L + 1 + 1 + 1 + 1 + 1 + 1, o6), (L + 1 + 1 + 1 + 1 + 1, o5), (L + 1 + 1 + 1 + 1, o4), (L + 1 + 1 + 1, o3), (L + 1 + 1, o2), (L + 1, o1)]) (h2 : ∃ v, o2.data = .cell v) (h3 : ∃ v, o3.data = .cell v)
    (F : Fr h₀ L s.heap (fun y => if y = PySem.Str.ofString "draw" then some (.ref D) else m y)) (N : News h₀ L s.heap [(D, LCg.lst ys), (L + 1 + 1 + 1 + 1 + 1 + 1, o6), (L + 1 + 1 + 1 + 1 + 1, o5), (L + 1 + 1 + 1 + 1, o4), (L + 1 + 1 + 1, o3), (L + 1 + 1, o2), (L + 1, o1)])
    (next : ∀ (p b : Nat) (tp tb : Tok) (q2 q3 : Obj) (h' : Heap) (tk' : Nat), p ∈ primesL → 2 ≤ b → b ≤ 36 → b % p ≠ 0 →
      q2.data = .cell (some (.int p tp)) → q3.data = .cell (some (.int b tb)) →
      Fr h₀ L h' (fun y => if y = PySem.Str.ofString "draw" then some (.ref D) else m y) →
      News h₀ L h' [(D, LCg.lst ys), (L + 1 + 1 + 1 + 1 + 1 + 1, o6), (L + 1 + 1 + 1 + 1 + 1, o5), (L + 1 + 1 + 1 + 1, o4), (L + 1 + 1 + 1, q3), (L + 1 + 1, q2), (L + 1, o1)] →
      wpAny (model PySem.Challenge.rw_aw5006_01.row.prog w) (lawA dp un gd L fa ccd outer) (execs (lawB.drop 3) (lawEnv L fa ccd)) Q E { s with heap := h', toks := tk' }) :
    wpAny (model PySem.Challenge.rw_aw5006_01.row.prog w) (lawA dp un gd L fa ccd outer) (execs (lawB.drop 1) (lawEnv L fa ccd)) Q E s := by
  revert X
  k_fill
  w_top off
  intro X
  simp only [LCg.Off1, and_true] at hD
  obtain ⟨v2, h2⟩ := h2
  obtain ⟨v3, h3⟩ := h3
  have e : ∀ x, x = lawB.drop 1 → wpAny (model PySem.Challenge.rw_aw5006_01.row.prog w) (lawA dp un gd L fa ccd outer) (execs x (lawEnv L fa ccd)) Q E s := by
    intro x hx
    conv at hx => rhs; whnf
    subst hx
    iterate 36 (walk_at "kstep")
    rename_i q2 hq2 _ q3 F1 N1 hq3
    have hp0 : ∀ i : Nat, i < 14 → ∃ p : Nat, p ∈ primesL ∧ ([3, 5, 7, 11, 13, 17, 19, 23, 29, 31, 37, 41, 43, 47] : List Int).getD i 0 = (p : Int) := by decide
    have e0 : [d0, d1, d2].getD (Int.toNat 0) 0 = d0 := rfl
    have e1 : [d0, d1, d2].getD (Int.toNat 1) 0 = d1 := rfl
    have hm0 := Int.fmod_nonneg_of_pos d0 (show (0 : Int) < 14 by decide)
    have hm1 := Int.fmod_lt_of_pos d0 (show (0 : Int) < 14 by decide)
    have hm2 := Int.fmod_nonneg_of_pos d1 (show (0 : Int) < 35 by decide)
    have hm3 := Int.fmod_lt_of_pos d1 (show (0 : Int) < 35 by decide)
    obtain ⟨p, hp, hpv⟩ := hp0 (d0.fmod 14).toNat (by omega)
    obtain ⟨b, hb⟩ : ∃ b : Nat, 2 + d1.fmod 35 = (b : Int) := ⟨_, (Int.toNat_of_nonneg (by omega)).symm⟩
    rw [e0, hpv] at hq2
    rw [e1, hb] at hq3
    have hp3 : ∀ p ∈ primesL, 3 ≤ p := by decide
    replace hp3 := hp3 p hp
    have N2 := cb_drop N1 (news := _ :: _ :: _ :: _ :: _ :: _ :: _ :: []) (fun x hx => List.Mem.tail _ hx)
    clear N1
    iterate 10 (walk_at "kstep")
    have hfm : (b : Int).fmod (p : Int) = ((b % p : Nat) : Int) := by
      rw [Int.fmod_eq_emod_of_nonneg _ (by omega)]; rfl
    rw [hfm]
    split
    · rename_i hz
      have hz' : b % p = 0 := Int.ofNat_eq_zero.mp (beq_iff_eq.mp hz)
      have hpb : p ∣ b := Nat.dvd_of_mod_eq_zero hz'
      have hble : p ≤ b := Nat.le_of_dvd (by omega) hpb
      have hb1 : (b : Int) - 1 = ((b - 1 : Nat) : Int) := by omega
      have hnz : (b - 1) % p ≠ 0 := fun hc => by
        have h1 := Nat.dvd_of_mod_eq_zero hc
        have h2 := (Nat.dvd_sub hpb h1)
        rw [show b - (b - 1) = 1 by omega] at h2
        have := Nat.le_of_dvd (by decide) h2
        omega
      iterate 6 (walk_at "kstep")
      dsimp only
      rw [hb1]
      iterate 3 (walk_at "kstep")
      rename_i q4 F3 N3 hq4
      exact next p (b - 1) _ _ q2 q4 _ _ hp (by omega) (by omega) hnz hq2 hq4 F3 N3
    · rename_i hz
      have hz' : b % p ≠ 0 := fun hc => hz (by rw [hc]; rfl)
      iterate 1 (walk_at "kstep")
      exact next p b _ _ q2 q3 _ _ hp (by omega) (by omega) hz' hq2 hq3 F1 N2
  exact e _ rfl
/-! L2 -/
set_option maxRecDepth 100000 in
set_option maxHeartbeats 8000000 in
theorem seg2 (w : World) (mg mb : PySem.Str → Option Value) (mean : ExcName → Option Value) (dp un : Nat) (gd : Option (List Code)) (fa : Addr) (ccd : Value) (outer : List Env) (A₀ : Around) (base h₀ : Heap) (L : Addr) (m : PySem.Str → Option Value) (s : Shared) (Q : Flow → Shared → Prop) (E : Value → Shared → Prop)
    (B : Below A₀ base outer h₀) (X : (hd.heap_39 w.params).In h₀) (T : Top hd.view_39 (looseW hd.view_39 [PySem.Str.ofString "small_numeral", PySem.Str.ofString "numeral"]) mean mg mb h₀)
    (d0 d1 d2 : Int) (ys : List Value) (D : Addr) (hys : IntsAre ys [d0, d1, d2])
    (o6 o5 o4 o3 o2 o1 : Obj) (p : Nat) (tp : Tok) (hp : p ∈ primesL) (h2 : o2.data = .cell (some (.int p tp)))
    (F : Fr h₀ L s.heap (fun y => if y = PySem.Str.ofString "draw" then some (.ref D) else m y)) (N : News h₀ L s.heap [(D, LCg.lst ys), (L + 1 + 1 + 1 + 1 + 1 + 1, o6), (L + 1 + 1 + 1 + 1 + 1, o5), (L + 1 + 1 + 1 + 1, o4), (L + 1 + 1 + 1, o3), (L + 1 + 1, o2), (L + 1, o1)])
    (next : ∀ (n : Nat) (tn : Tok) (m' : PySem.Str → Option Value) (h' : Heap) (tk' : Nat), 1 ≤ n → n < p →
      Fr h₀ L h' (fun y => if y = PySem.Str.ofString "numerator" then some (.int n tn) else m' y) →
      News h₀ L h' [(L + 1 + 1 + 1 + 1 + 1 + 1, o6), (L + 1 + 1 + 1 + 1 + 1, o5), (L + 1 + 1 + 1 + 1, o4), (L + 1 + 1 + 1, o3), (L + 1 + 1, o2), (L + 1, o1)] →
      wpAny (model PySem.Challenge.rw_aw5006_01.row.prog w) (lawA dp un gd L fa ccd outer) (execs (lawB.drop 4) (lawEnv L fa ccd)) Q E { s with heap := h', toks := tk' }) :
    wpAny (model PySem.Challenge.rw_aw5006_01.row.prog w) (lawA dp un gd L fa ccd outer) (execs (lawB.drop 3) (lawEnv L fa ccd)) Q E s := by
  revert X
  k_fill
  w_top off
  intro X
  have hp3 : ∀ p ∈ primesL, 3 ≤ p := by decide
  replace hp3 := hp3 p hp
  have e : ∀ x, x = lawB.drop 3 → wpAny (model PySem.Challenge.rw_aw5006_01.row.prog w) (lawA dp un gd L fa ccd outer) (execs x (lawEnv L fa ccd)) Q E s := by
    intro x hx
    conv at hx => rhs; whnf
    subst hx
    iterate 16 (walk_at "kstep")
    rename_i F1 N1
    have e0 : [d0, d1, d2].getD (Int.toNat 2) 0 = d2 := rfl
    have hm0 := Int.fmod_nonneg_of_pos d2 (show (0 : Int) < (p : Int) - 1 by omega)
    have hm1 := Int.fmod_lt_of_pos d2 (show (0 : Int) < (p : Int) - 1 by omega)
    obtain ⟨n, hn⟩ : ∃ n : Nat, 1 + d2.fmod ((p : Int) - 1) = (n : Int) := ⟨_, (Int.toNat_of_nonneg (by omega)).symm⟩
    rw [e0, hn] at F1
    exact next n _ _ _ _ (by omega) (by omega) F1 (cb_drop N1 fun x hx => .tail _ hx)
  exact e _ rfl
/-! L3 -/
set_option maxRecDepth 100000 in
set_option maxHeartbeats 8000000 in
theorem seg3 (w : World) (mg mb : PySem.Str → Option Value) (mean : ExcName → Option Value) (dp un : Nat) (gd : Option (List Code)) (fa : Addr) (ccd : Value) (outer : List Env) (A₀ : Around) (base h₀ : Heap) (L : Addr) (m : PySem.Str → Option Value) (s : Shared) (Q : Flow → Shared → Prop) (E : Value → Shared → Prop)
    (B : Below A₀ base outer h₀) (X : (hd.heap_39 w.params).In h₀) (T : Top hd.view_39 (looseW hd.view_39 [PySem.Str.ofString "small_numeral", PySem.Str.ofString "numeral"]) mean mg mb h₀)
    (o6 o5 o4 o3 o2 o1 : Obj) (p b : Nat) (tp tb : Tok) (hp : p ∈ primesL) (hb2 : 2 ≤ b) (hb36 : b ≤ 36) (h2 : o2.data = .cell (some (.int p tp))) (h3 : o3.data = .cell (some (.int b tb))) (h4 : ∃ v, o4.data = .cell v)
    (sz : Nat) (rest : List Int) (hsz : (rangeKs 1 (p - 1)).foldl (ordG p b) [] = (sz : Int) :: rest)
    (F : Fr h₀ L s.heap m) (N : News h₀ L s.heap [(L + 1 + 1 + 1 + 1 + 1 + 1, o6), (L + 1 + 1 + 1 + 1 + 1, o5), (L + 1 + 1 + 1 + 1, o4), (L + 1 + 1 + 1, o3), (L + 1 + 1, o2), (L + 1, o1)])
    (next : ∀ (ts : Tok) (q4 : Obj) (h' : Heap) (tk' : Nat), q4.data = .cell (some (.int sz ts)) →
      Fr h₀ L h' m →
      News h₀ L h' [(L + 1 + 1 + 1 + 1 + 1 + 1, o6), (L + 1 + 1 + 1 + 1 + 1, o5), (L + 1 + 1 + 1 + 1, q4), (L + 1 + 1 + 1, o3), (L + 1 + 1, o2), (L + 1, o1)] →
      wpAny (model PySem.Challenge.rw_aw5006_01.row.prog w) (lawA dp un gd L fa ccd outer) (execs (lawB.drop 5) (lawEnv L fa ccd)) Q E { s with heap := h', toks := tk' }) :
    wpAny (model PySem.Challenge.rw_aw5006_01.row.prog w) (lawA dp un gd L fa ccd outer) (execs (lawB.drop 4) (lawEnv L fa ccd)) Q E s := by
  revert X
  k_fill
  w_top off
  intro X
  obtain ⟨v4, h4⟩ := h4
  have hp3 : ∀ p ∈ primesL, 3 ≤ p ∧ p ≤ 47 := by decide
  obtain ⟨hp3, hp47⟩ := hp3 p hp
  have e : ∀ x, x = lawB.drop 4 → wpAny (model PySem.Challenge.rw_aw5006_01.row.prog w) (lawA dp un gd L fa ccd outer) (execs x (lawEnv L fa ccd)) Q E s := by
    intro x hx
    conv at hx => rhs; whnf
    subst hx
    iterate 3 (walk_at "kstep")
    k_dflt (refine LCt.ListComp_T (F₀ := F) (by with_unfolding_all rfl) (by decide) (by rfl) (by decide) (by rfl) ?_)
    iterate 9 (walk_at "kstep")
    rename IsRange _ _ _ _ _ _ _ _ => rgX
    rename Fr _ _ _ _ => F1
    rename News _ _ _ _ => N1
    refine LCt.CompSrcT.range (n := p - 1) rfl F1 N1 rgX (small_one (by omega) (by omega) (by omega) (by omega)) ?hn (by rw [sizeLine_eq]; omega) (fun g => kci_range (ordG p b) ?turn ?fin (ordG_grows p b))
    case hn =>
      rw [rangeSize_nat]; omega
    case fin =>
      unfold KPfDone LCg.FinE
      intro ys hys hyl D h' tk' F' N' o1'
      dsimp only
      rw [hsz] at hys
      iterate 4 (walk_at "kstep")
      rename_i q4 F5 N5 hq4
      exact next _ q4 _ _ hq4 F5 (cb_drop N5 fun x hx => .tail _ hx)
    case turn =>
      intro k t I oI C oC D m₂ ys l h tk E' hk1 hk2 hyl hC hx FF NN off ne mk
      dsimp only
      obtain ⟨j, rfl⟩ : ∃ j : Nat, k = (j : Int) := ⟨k.toNat, (Int.toNat_of_nonneg (by omega)).symm⟩
      iterate 12 (walk_at "kstep")
      refine pow3 (by omega) ?_
      iterate 4 (walk_at "kstep")
      split
      · rename_i hz
        have hz' : b ^ j % p = 1 := by
          have := beq_iff_eq.mp hz
          omega
        iterate 1 (walk_at "kstep")
        exact LCg.CompEnd.intro FF NN _ (fun x hx => hx) off trivial (kci_el (if_pos (by simpa using hz')) rfl rfl)
      · rename_i hz
        have hz' : ¬ b ^ j % p = 1 := fun hc => hz (by rw [hc]; rfl)
        exact LCg.CompEnd.intro FF NN _ (fun x hx => hx) off trivial (kci_no (if_neg (by simpa using hz')) rfl)
  exact e _ rfl
/-! L4 -/
set_option maxRecDepth 100000 in
set_option maxHeartbeats 8000000 in
theorem seg4 (w : World) (mg mb : PySem.Str → Option Value) (mean : ExcName → Option Value) (dp un : Nat) (gd : Option (List Code)) (fa : Addr) (ccd : Value) (outer : List Env) (A₀ : Around) (base h₀ : Heap) (L : Addr) (m : PySem.Str → Option Value) (s : Shared) (Q : Flow → Shared → Prop) (E : Value → Shared → Prop)
    (B : Below A₀ base outer h₀) (X : (hd.heap_39 w.params).In h₀) (T : Top hd.view_39 (looseW hd.view_39 [PySem.Str.ofString "small_numeral", PySem.Str.ofString "numeral"]) mean mg mb h₀) (hdp : dp + 4 < recursionLimit) (hun : un + 8 * 4 < cLine)
    (o6 o5 o4 o3 o2 o1 : Obj) (p b n sz : Nat) (tp tb tn ts : Tok) (hp1 : 3 ≤ p) (hp2 : p ≤ 47) (hb2 : 2 ≤ b) (hb36 : b ≤ 36) (hn : n < 1000) (hs1 : 1 ≤ sz) (hs2 : sz ≤ 46) (hR0 : 0 < Rn p b n sz) (hR1 : Rn p b n sz < b ^ sz)
    (h2 : o2.data = .cell (some (.int p tp))) (h3 : o3.data = .cell (some (.int b tb))) (h4 : o4.data = .cell (some (.int sz ts))) (h5 : ∃ v, o5.data = .cell v)
    (F : Fr h₀ L s.heap (fun y => if y = PySem.Str.ofString "numerator" then some (.int n tn) else m y)) (N : News h₀ L s.heap [(L + 1 + 1 + 1 + 1 + 1 + 1, o6), (L + 1 + 1 + 1 + 1 + 1, o5), (L + 1 + 1 + 1 + 1, o4), (L + 1 + 1 + 1, o3), (L + 1 + 1, o2), (L + 1, o1)])
    (next : ∀ (tr to : Tok) (q5 : Obj) (h' : Heap) (tk' : Nat), q5.data = .cell (some (.str (tx (bd b sz (Rn p b n sz))) tr)) →
      Fr h₀ L h' (fun y => if y = PySem.Str.ofString "often" then some (.int ((1 + 250 / sz : Nat) : Int) to) else if y = PySem.Str.ofString "numerator" then some (.int n tn) else m y) →
      News h₀ L h' [(L + 1 + 1 + 1 + 1 + 1 + 1, o6), (L + 1 + 1 + 1 + 1 + 1, q5), (L + 1 + 1 + 1 + 1, o4), (L + 1 + 1 + 1, o3), (L + 1 + 1, o2), (L + 1, o1)] →
      wpAny (model PySem.Challenge.rw_aw5006_01.row.prog w) (lawA dp un gd L fa ccd outer) (execs (lawB.drop 7) (lawEnv L fa ccd)) Q E { s with heap := h', toks := tk' }) :
    wpAny (model PySem.Challenge.rw_aw5006_01.row.prog w) (lawA dp un gd L fa ccd outer) (execs (lawB.drop 5) (lawEnv L fa ccd)) Q E s := by
  revert X
  k_fill
  w_top off
  intro X
  obtain ⟨v5, h5⟩ := h5
  have e : ∀ x, x = lawB.drop 5 → wpAny (model PySem.Challenge.rw_aw5006_01.row.prog w) (lawA dp un gd L fa ccd outer) (execs x (lawEnv L fa ccd)) Q E s := by
    intro x hx
    conv at hx => rhs; whnf
    subst hx
    iterate 14 (walk_at "kstep")
    refine ⟨by k_in, ?_⟩
    refine figures_told n p b sz _ _ _ _ hb2 hb36 (by omega) (by omega) hn hs1 (by omega) hR0 hR1 w mg mb mean _ _ _ _ _ _ _ _ _ _ _ _ _ _ _ _ _ _ B F X N T rfl (by ktr_room) (by ktr_units) (fun t9 h9 tk9 F9 N9 => ?_)
    clear F N
    iterate 12 (walk_at "kstep")
    rename_i q5 hq5 _ F5 N5
    have hv : (1 : Int) + Int.fdiv 250 (sz : Int) = ((1 + 250 / sz : Nat) : Int) := by
      rw [Int.fdiv_eq_ediv_of_nonneg _ (by omega)]; rfl
    rw [hv] at F5
    exact next _ _ q5 _ _ hq5 F5 N5
  exact e _ rfl
/-! L5 -/
set_option maxRecDepth 100000 in
set_option maxHeartbeats 8000000 in
theorem seg5 (w : World) (mg mb : PySem.Str → Option Value) (mean : ExcName → Option Value) (dp un : Nat) (gd : Option (List Code)) (fa : Addr) (ccd : Value) (outer : List Env) (A₀ : Around) (base h₀ : Heap) (L : Addr) (m : PySem.Str → Option Value) (s : Shared) (Q : Flow → Shared → Prop) (E : Value → Shared → Prop)
    (B : Below A₀ base outer h₀) (X : (hd.heap_39 w.params).In h₀) (T : Top hd.view_39 (looseW hd.view_39 [PySem.Str.ofString "small_numeral", PySem.Str.ofString "numeral"]) mean mg mb h₀) (hdp : dp + 4 < recursionLimit) (hun : un + 8 * 4 < cLine)
    (o6 o5 o4 o3 o2 o1 : Obj) (p b n sz o : Nat) (tp tb tn ts tr to : Tok) (hp1 : 3 ≤ p) (hp2 : p ≤ 47) (hb2 : 2 ≤ b) (hb36 : b ≤ 36) (hn : n < 1000) (hs1 : 1 ≤ sz) (hs2 : sz ≤ 46) (ho1 : 1 ≤ o) (ho : o * sz ≤ 300) (hR0 : 0 < Rn p b n (o * sz)) (hR1 : Rn p b n (o * sz) < b ^ (o * sz))
    (heq : tx (bd b (o * sz) (Rn p b n (o * sz))) = Txt.mul (tx (bd b sz (Rn p b n sz))) (o : Int))
    (h2 : o2.data = .cell (some (.int p tp))) (h3 : o3.data = .cell (some (.int b tb))) (h4 : o4.data = .cell (some (.int sz ts))) (h5 : o5.data = .cell (some (.str (tx (bd b sz (Rn p b n sz))) tr)))
    (F : Fr h₀ L s.heap (fun y => if y = PySem.Str.ofString "often" then some (.int o to) else if y = PySem.Str.ofString "numerator" then some (.int n tn) else m y)) (N : News h₀ L s.heap [(L + 1 + 1 + 1 + 1 + 1 + 1, o6), (L + 1 + 1 + 1 + 1 + 1, o5), (L + 1 + 1 + 1 + 1, o4), (L + 1 + 1 + 1, o3), (L + 1 + 1, o2), (L + 1, o1)])
    (next : ∀ (h' : Heap) (tk' : Nat), 
      Fr h₀ L h' (fun y => if y = PySem.Str.ofString "often" then some (.int o to) else if y = PySem.Str.ofString "numerator" then some (.int n tn) else m y) →
      News h₀ L h' [(L + 1 + 1 + 1 + 1 + 1 + 1, o6), (L + 1 + 1 + 1 + 1 + 1, o5), (L + 1 + 1 + 1 + 1, o4), (L + 1 + 1 + 1, o3), (L + 1 + 1, o2), (L + 1, o1)] →
      wpAny (model PySem.Challenge.rw_aw5006_01.row.prog w) (lawA dp un gd L fa ccd outer) (execs (lawB.drop 8) (lawEnv L fa ccd)) Q E { s with heap := h', toks := tk' }) :
    wpAny (model PySem.Challenge.rw_aw5006_01.row.prog w) (lawA dp un gd L fa ccd outer) (execs (lawB.drop 7) (lawEnv L fa ccd)) Q E s := by
  revert X
  k_fill
  w_top off
  intro X
  have hm : ((o : Int) * (sz : Int)) = ((o * sz : Nat) : Int) := by simp
  have e : ∀ x, x = lawB.drop 7 → wpAny (model PySem.Challenge.rw_aw5006_01.row.prog w) (lawA dp un gd L fa ccd outer) (execs x (lawEnv L fa ccd)) Q E s := by
    intro x hx
    conv at hx => rhs; whnf
    subst hx
    have ho300 : o ≤ 300 := Nat.le_trans (Nat.le_mul_of_pos_right o (by omega)) ho
    iterate 16 (walk_at "kstep")
    refine mul_int ?_ (IntMulOk.of_left (intBits_le_64 (by omega) (by omega)))
    rw [hm]
    iterate 2 (walk_at "kstep")
    refine figures_told n p b (o * sz) _ _ _ _ hb2 hb36 (by omega) (by omega) hn (Nat.le_trans hs1 (Nat.le_mul_of_pos_left sz (by omega))) ho hR0 hR1 w mg mb mean _ _ _ _ _ _ _ _ _ _ _ _ _ _ _ _ _ _ B F X N T rfl (by ktr_room) (by ktr_units) (fun t9 h9 tk9 F9 N9 => ?_)
    clear F N
    iterate 3 (walk_at "kstep")
    refine SB.mul (mulOk_of 46 300 (by rw [tx_length, bd_length]; exact hs2) (by omega) (by omega) (by decide) (by decide)) ?_
    intro t8 k8
    have heq' : tx (bd b (o * sz) (n * (b ^ (o * sz) - 1) / p)) = Txt.mul (tx (bd b sz (Rn p b n sz))) (o : Int) := heq
    rw [heq']
    dsimp only
    iterate 2 (walk_at "kstep")
    rw [if_neg (by simp)]
    iterate 1 (walk_at "kstep")
    exact next _ _ F9 N9
  exact e _ rfl
/-! L6 -/
set_option maxRecDepth 100000 in
set_option maxHeartbeats 8000000 in
theorem seg6 (w : World) (mg mb : PySem.Str → Option Value) (mean : ExcName → Option Value) (dp un : Nat) (gd : Option (List Code)) (fa : Addr) (ccd : Value) (outer : List Env) (A₀ : Around) (base h₀ : Heap) (L : Addr) (m : PySem.Str → Option Value) (s : Shared) (Q : Flow → Shared → Prop) (E : Value → Shared → Prop)
    (B : Below A₀ base outer h₀) (X : (hd.heap_39 w.params).In h₀) (T : Top hd.view_39 (looseW hd.view_39 [PySem.Str.ofString "small_numeral", PySem.Str.ofString "numeral"]) mean mg mb h₀) (hdp : dp + 4 < recursionLimit) (hun : un + 8 * 4 < cLine)
    (o6 o5 o4 o3 o2 o1 : Obj) (p b n sz o : Nat) (tp tb tn ts tr to : Tok) (hp1 : 3 ≤ p) (hp2 : p ≤ 47) (hb2 : 2 ≤ b) (hb36 : b ≤ 36) (hn : n < 1000) (hs1 : 1 ≤ sz) (hs2 : sz ≤ 46) (hR0 : 0 < Rn p b (n * b % p) sz) (hR1 : Rn p b (n * b % p) sz < b ^ sz)
    (heq : tx (bd b sz (Rn p b (n * b % p) sz)) = Txt.slice (tx (bd b sz (Rn p b n sz))) (some 1) none ++ Txt.slice (tx (bd b sz (Rn p b n sz))) none (some 1))
    (h2 : o2.data = .cell (some (.int p tp))) (h3 : o3.data = .cell (some (.int b tb))) (h4 : o4.data = .cell (some (.int sz ts))) (h5 : o5.data = .cell (some (.str (tx (bd b sz (Rn p b n sz))) tr)))
    (F : Fr h₀ L s.heap (fun y => if y = PySem.Str.ofString "often" then some (.int o to) else if y = PySem.Str.ofString "numerator" then some (.int n tn) else m y)) (N : News h₀ L s.heap [(L + 1 + 1 + 1 + 1 + 1 + 1, o6), (L + 1 + 1 + 1 + 1 + 1, o5), (L + 1 + 1 + 1 + 1, o4), (L + 1 + 1 + 1, o3), (L + 1 + 1, o2), (L + 1, o1)])
    (next : ∀ (h' : Heap) (tk' : Nat), 
      Fr h₀ L h' (fun y => if y = PySem.Str.ofString "often" then some (.int o to) else if y = PySem.Str.ofString "numerator" then some (.int n tn) else m y) →
      News h₀ L h' [(L + 1 + 1 + 1 + 1 + 1 + 1, o6), (L + 1 + 1 + 1 + 1 + 1, o5), (L + 1 + 1 + 1 + 1, o4), (L + 1 + 1 + 1, o3), (L + 1 + 1, o2), (L + 1, o1)] →
      wpAny (model PySem.Challenge.rw_aw5006_01.row.prog w) (lawA dp un gd L fa ccd outer) (execs (lawB.drop 9) (lawEnv L fa ccd)) Q E { s with heap := h', toks := tk' }) :
    wpAny (model PySem.Challenge.rw_aw5006_01.row.prog w) (lawA dp un gd L fa ccd outer) (execs (lawB.drop 8) (lawEnv L fa ccd)) Q E s := by
  revert X
  k_fill
  w_top off
  intro X
  have e : ∀ x, x = lawB.drop 8 → wpAny (model PySem.Challenge.rw_aw5006_01.row.prog w) (lawA dp un gd L fa ccd outer) (execs x (lawEnv L fa ccd)) Q E s := by
    intro x hx
    conv at hx => rhs; whnf
    subst hx
    have hmod : ((n : Int) * (b : Int)).fmod (p : Int) = ((n * b % p : Nat) : Int) := by
      rw [Int.fmod_eq_emod_of_nonneg _ (by omega)]; rfl
    have hn' : n * b % p < 1000 := Nat.lt_trans (Nat.mod_lt _ (by omega)) (by omega)
    iterate 14 (walk_at "kstep")
    rw [hmod]
    iterate 8 (walk_at "kstep")
    refine figures_told (n * b % p) p b sz _ _ _ _ hb2 hb36 (by omega) (by omega) hn' hs1 (by omega) hR0 hR1 w mg mb mean _ _ _ _ _ _ _ _ _ _ _ _ _ _ _ _ _ _ B F X N T rfl (by ktr_room) (by ktr_units) (fun t9 h9 tk9 F9 N9 => ?_)
    clear F N
    have heq' : tx (bd b sz (n * b % p * (b ^ sz - 1) / p)) = Txt.slice (tx (bd b sz (Rn p b n sz))) (some 1) none ++ Txt.slice (tx (bd b sz (Rn p b n sz))) none (some 1) := heq
    rw [heq']
    have hln : (tx (bd b sz (Rn p b n sz))).length ≤ 46 := by rw [tx_length, bd_length]; exact hs2
    have hsl1 := Txt.slice_le (tx (bd b sz (Rn p b n sz))) (some 1) none
    have hsl2 := Txt.slice_le (tx (bd b sz (Rn p b n sz))) none (some 1)
    iterate 8 (walk_at "kstep")
    iterate 12 (walk_at "kstep")
    rw [if_neg (by simp)]
    rename News _ _ _ _ => N7
    rename Fr _ _ _ _ => F7
    iterate 1 (walk_at "kstep")
    exact next _ _ F7 N7
  exact e _ rfl
/-! L7 -/
set_option maxRecDepth 100000 in
set_option maxHeartbeats 8000000 in
theorem seg7 (w : World) (mg mb : PySem.Str → Option Value) (mean : ExcName → Option Value) (dp un : Nat) (gd : Option (List Code)) (fa : Addr) (ccd : Value) (outer : List Env) (A₀ : Around) (base h₀ : Heap) (L : Addr) (m : PySem.Str → Option Value) (s : Shared) (Q : Flow → Shared → Prop) (E : Value → Shared → Prop)
    (B : Below A₀ base outer h₀) (X : (hd.heap_39 w.params).In h₀) (T : Top hd.view_39 (looseW hd.view_39 [PySem.Str.ofString "small_numeral", PySem.Str.ofString "numeral"]) mean mg mb h₀) (hdp : dp + 4 < recursionLimit) (hun : un + 8 * 4 < cLine)
    (hE : PassesOwn (model PySem.Challenge.rw_aw5006_01.row.prog w) (lawA dp un gd L fa ccd outer) (lawEnv L fa ccd) E)
    (o6 o5 o4 o3 o2 o1 : Obj) (b sz : Nat) (P : List Nat) (tb ts tr : Tok) (hb2 : 2 ≤ b) (hb36 : b ≤ 36) (hs1 : 1 ≤ sz) (hs2 : sz ≤ 46) (hP : P.length = sz) (hPb : ∀ d ∈ P, d < b)
    (hch : ∀ q, 2 ≤ q → q ≤ sz → sz % q = 0 → totB b P (sz / q) q % (b ^ (sz / q) - 1) = 0 ∧ (q = 2 → totB b P (sz / q) q = b ^ (sz / q) - 1))
    (h3 : o3.data = .cell (some (.int b tb))) (h4 : o4.data = .cell (some (.int sz ts))) (h5 : o5.data = .cell (some (.str (tx P) tr))) (h6 : ∃ v, o6.data = .cell v)
    (F : Fr h₀ L s.heap m) (N : News h₀ L s.heap [(L + 1 + 1 + 1 + 1 + 1 + 1, o6), (L + 1 + 1 + 1 + 1 + 1, o5), (L + 1 + 1 + 1 + 1, o4), (L + 1 + 1 + 1, o3), (L + 1 + 1, o2), (L + 1, o1)])
    (next : ∀ (q6 : Obj) (m' : PySem.Str → Option Value) (h' : Heap) (tk' : Nat), m' (PySem.Str.ofString "numerator") = m (PySem.Str.ofString "numerator") →
      Fr h₀ L h' m' →
      News h₀ L h' [(L + 1 + 1 + 1 + 1 + 1 + 1, q6), (L + 1 + 1 + 1 + 1 + 1, o5), (L + 1 + 1 + 1 + 1, o4), (L + 1 + 1 + 1, o3), (L + 1 + 1, o2), (L + 1, o1)] →
      wpAny (model PySem.Challenge.rw_aw5006_01.row.prog w) (lawA dp un gd L fa ccd outer) (execs (lawB.drop 10) (lawEnv L fa ccd)) Q E { s with heap := h', toks := tk' }) :
    wpAny (model PySem.Challenge.rw_aw5006_01.row.prog w) (lawA dp un gd L fa ccd outer) (execs (lawB.drop 9) (lawEnv L fa ccd)) Q E s := by
  revert X
  k_fill
  w_top off
  intro X
  have e : ∀ x, x = lawB.drop 9 → wpAny (model PySem.Challenge.rw_aw5006_01.row.prog w) (lawA dp un gd L fa ccd outer) (execs x (lawEnv L fa ccd)) Q E s := by
    intro x hx
    conv at hx => rhs; whnf
    subst hx
    refine wpAny_execs_cons ?_
    k_dflt (refine For_invVF F (by rfl) (by rfl) ?_ (by intro _; rfl) hE)
    iterate 12 (walk_at "kstep")
    rename IsRange _ _ _ _ _ _ _ _ => rgX
    rename Fr _ _ _ _ => F1
    rename News _ _ _ _ => N1
    with_unfolding_all refine' kst_range (σ := Obj) (n := ((sz : Int) + 1 - 2).toNat) (fun c => [(L + 1 + 1 + 1 + 1 + 1 + 1, c), (L + 1 + 1 + 1 + 1 + 1, o5), (L + 1 + 1 + 1 + 1, o4), (L + 1 + 1 + 1, o3), (L + 1 + 1, o2), (L + 1, o1)]) (fun _ => []) (fun c => ∃ v, c.data = .cell v) [PySem.Str.ofString "total", PySem.Str.ofString "greatest"] (fun _ _ => True) o6 rfl rgX (small_one (by omega) (by omega) (by omega) (by omega)) (rangeSize_nat _ _) ?kF ?kN h6 ?kk trivial ?turn ?done
    case kF => exact F1
    case kN => exact N1
    case kk => exact fun p hp => nomatch hp
    case done =>
      intro c u h tk hc _ F' N'
      dsimp only at N' ⊢
      refine next c _ _ _ ?_ F' N'
      rfl
    case turn =>
      intro c pre k t u h tk own hk hlt hoff hc _ F' N'
      dsimp only at N' ⊢
      simp only [List.cons_append, List.nil_append] at N'
      obtain ⟨q, rfl⟩ : ∃ q : Nat, k = (q : Int) := ⟨k.toNat, (Int.toNat_of_nonneg (by omega)).symm⟩
      have hq2 : 2 ≤ q := by omega
      have hqs : q ≤ sz := by omega
      obtain ⟨vc, hc⟩ := hc
      have hfm : (sz : Int).fmod (q : Int) = ((sz % q : Nat) : Int) := by
        rw [Int.fmod_eq_emod_of_nonneg _ (by omega)]; rfl
      have hfd : (sz : Int).fdiv (q : Int) = ((sz / q : Nat) : Int) := by
        rw [Int.fdiv_eq_ediv_of_nonneg _ (by omega)]; rfl
      iterate 10 (walk_at "kstep")
      rw [hfm]
      split
      · rename_i hz
        have hz' : sz % q = 0 := Int.ofNat_eq_zero.mp (beq_iff_eq.mp hz)
        iterate 6 (walk_at "kstep")
        dsimp only
        rw [hfd]
        generalize hln : sz / q = ln at *
        have hqln : q * ln = sz := by rw [← hln]; exact Nat.mul_div_cancel' (Nat.dvd_of_mod_eq_zero hz')
        have hln1 : 1 ≤ ln := by
          rcases Nat.eq_zero_or_pos ln with h0 | h0
          · rw [h0] at hqln; omega
          · exact h0
        have hlns : ln ≤ sz := by rw [← hqln]; exact Nat.le_mul_of_pos_left ln (by omega)
        k_dflt (refine' storeX_C (c := L + 1 + 1 + 1 + 1 + 1 + 1) F' N' ?hcc (UpdF.head ?hUU) hc ?_ ?ha ?hb; (case hcc => rfl); (case ha => rfl); (case hb => rfl))
        case hUU =>
          intro x hx
          simp only [List.mem_cons] at hx
          rcases hx with rfl | rfl | rfl | rfl | rfl | hown
          · k_ne
          · k_ne
          · k_ne
          · k_ne
          · k_ne
          · exact hoff x hown _ (.head _)
        intro h9 c9 F9 N9 hc9
        clear F' N'
        iterate 9 (walk_at "kstep")
        k_dflt (refine ListComp_step F9 (by with_unfolding_all rfl) (by decide) (by rfl) (by decide) (by rfl) ?_)
        iterate 11 (walk_at "kstep")
        rename IsRange _ _ _ _ _ _ _ _ => rg2
        rename Fr _ _ _ _ => F8
        rename News _ _ _ _ => N8
        subst hqln
        refine ⟨_, 0, ((q * ln : Nat) : Int), (ln : Int), _, _, _, q, _, rfl, rfl, F8, N8, rg2, small_step (by omega) hln1 hs2, rangeSize_step (by omega) hln1, (by rw [sizeLine_eq]; omega), fun g => kcf_rest (ks := (List.range q).map fun (i : Nat) => (0 : Int) + (i : Int) * (ln : Int)) (fun k => ((valB b ((P.drop k.toNat).take ln) : Nat) : Int)) (by simp) ?hP ?turn2 ?fin2⟩
        case hP =>
          rintro i v hi ⟨_, t, rfl⟩
          exact ⟨_, t, by simp [hi], rfl⟩
        case fin2 =>
          unfold KPfDone LCg.FinE
          intro ys hys D h' tk' F' N' o1'
          dsimp only
          iterate 20 (walk_at "kstep")
          rename_i F4 N4
          have N3 := cb_drop N4 (news := (L + 1 + 1 + 1 + 1 + 1 + 1, c9) :: (L + 1 + 1 + 1 + 1 + 1, o5) :: (L + 1 + 1 + 1 + 1, o4) :: (L + 1 + 1 + 1, o3) :: (L + 1 + 1, o2) :: (L + 1, o1) :: own) (fun x hx => .tail _ (.tail _ hx))
          have hsum : (((List.range q).map fun (i : Nat) => (0 : Int) + (i : Int) * (ln : Int)).map (fun k => ((valB b ((P.drop k.toNat).take ln) : Nat) : Int))).sum = ((totB b P ln q : Nat) : Int) := totB_int b P ln q
          have hbl : 1 < b ^ ln := Nat.one_lt_pow (by omega) (by omega)
          have hgr : (b : Int) ^ (ln : Int).toNat - 1 = ((b ^ ln - 1 : Nat) : Int) := by
            rw [Int.toNat_natCast, Int.natCast_sub (by omega), Int.natCast_pow]; rfl
          rw [hsum, hgr] at F4
          clear N4
          obtain ⟨hmod, htwo⟩ := hch q hq2 hqs hz'
          rw [hln] at hmod htwo
          generalize totB b P ln q = tot at *
          have hgr1 : 1 ≤ b ^ ln - 1 := by omega
          generalize b ^ ln - 1 = gr at *
          have hfm2 : (tot : Int).fmod (gr : Int) = 0 := by
            rw [Int.fmod_eq_emod_of_nonneg _ (by omega)]
            show ((tot % gr : Nat) : Int) = 0
            rw [hmod]; rfl
          iterate 8 (walk_at "kstep")
          rw [hfm2]
          iterate 3 (walk_at "kstep")
          iterate 8 (walk_at "kstep")
          split
          · rename_i hq2'
            have hq2e : q = 2 := by
              have := beq_iff_eq.mp hq2'
              omega
            have htg := htwo hq2e
            iterate 6 (walk_at "kstep")
            rw [htg]
            rw [if_neg (by simp)]
            iterate 3 (walk_at "kstep")
            repeat' (refine wpAny_execs_nil ?_)
            show InvEndN _ _ _ _ _ _ _
            refine kst_end c9 F4 N3 ?_ ?_ rfl ⟨_, hc9⟩ (fun p hp => nomatch hp) ?_ trivial
            · intro x hx
              simp only [List.mem_cons, List.not_mem_nil, or_false] at hx ⊢
              rcases hx with rfl | rfl | rfl | rfl | rfl | rfl <;> simp
            · intro x hx
              simp [hx]
            · intro z h1 _ h2
              have e1 : z ≠ PySem.Str.ofString "total" := fun hh => by rw [hh] at h2; simp at h2
              have e2 : z ≠ PySem.Str.ofString "greatest" := fun hh => by rw [hh] at h2; simp at h2
              rw [if_neg e1, if_neg e2, if_neg h1]
              show (if _ = true then u z else m z) = m z
              rw [h2]; rfl
          · iterate 3 (walk_at "kstep")
            repeat' (refine wpAny_execs_nil ?_)
            show InvEndN _ _ _ _ _ _ _
            refine kst_end c9 F4 N3 ?_ ?_ rfl ⟨_, hc9⟩ (fun p hp => nomatch hp) ?_ trivial
            · intro x hx
              simp only [List.mem_cons, List.not_mem_nil, or_false] at hx ⊢
              rcases hx with rfl | rfl | rfl | rfl | rfl | rfl <;> simp
            · intro x hx
              simp [hx]
            · intro z h1 _ h2
              have e1 : z ≠ PySem.Str.ofString "total" := fun hh => by rw [hh] at h2; simp at h2
              have e2 : z ≠ PySem.Str.ofString "greatest" := fun hh => by rw [hh] at h2; simp at h2
              rw [if_neg e1, if_neg e2, if_neg h1]
              show (if _ = true then u z else m z) = m z
              rw [h2]; rfl
        case turn2 =>
          intro k t I oI C oC D m₂ ys h tk E' hk hC hx FF NN off ne mk
          dsimp only
          obtain ⟨i, hi, rfl⟩ := List.mem_map.mp hk
          have hiq : i < q := List.mem_range.mp hi
          have hkv : (0 : Int) + (i : Int) * (ln : Int) = ((i * ln : Nat) : Int) := by simp
          rw [hkv] at hx ⊢
          have hile : i * ln + ln ≤ q * ln := by
            have := Nat.mul_le_mul_right ln (Nat.succ_le_of_lt hiq)
            rw [Nat.succ_mul] at this
            exact this
          have hsl := Txt.slice_le (tx P) (some ((i * ln : Nat) : Int)) (some (((i * ln : Nat) : Int) + (ln : Int)))
          have hPl : (tx P).length = q * ln := by rw [tx_length, hP]
          iterate 19 (walk_at "kstep")
          rename Fr _ _ _ _ => F6
          rename News _ _ _ _ => N6
          rw [slice_tx P (by omega)]
          have hck : (P.drop ((i * ln : Nat) : Int).toNat).take (((i * ln : Nat) : Int) + (ln : Int) - ((i * ln : Nat) : Int)).toNat = chunk P ln i := by
            unfold chunk
            congr 1
            omega
          rw [hck]
          have hcl : (chunk P ln i).length = ln := by
            unfold chunk
            rw [List.length_take, List.length_drop]
            omega
          have hne : chunk P ln i ≠ [] := fun h0 => by
            rw [h0] at hcl
            simp only [List.length_nil] at hcl
            omega
          have hcd : ∀ d ∈ chunk P ln i, d < b := fun d hd => hPb d (List.mem_of_mem_drop (List.mem_of_mem_take hd))
          refine call_int2 hb2 hb36 hcd hne (by rw [hcl]; omega) ?_
          exact LCg.CompEnd.intro F6 N6 _ (fun x hx => hx) off trivial (kcf_el (by rw [Int.toNat_natCast]; rfl) rfl rfl)
      · iterate 3 (walk_at "kstep")
        show InvEndN _ _ _ _ _ _ _
        refine kst_end c F' N' ?_ ?_ rfl ⟨vc, hc⟩ (fun p hp => nomatch hp) ?_ trivial
        · intro x hx
          simp only [List.mem_cons, List.not_mem_nil, or_false] at hx ⊢
          rcases hx with rfl | rfl | rfl | rfl | rfl | rfl <;> simp
        · intro x hx
          simp [hx]
        · intro z h1 _ h2
          rw [if_neg h1]
          show (if _ = true then u z else m z) = m z
          rw [h2]; rfl
  exact e _ rfl
/-! L8 -/
set_option maxRecDepth 100000 in
set_option maxHeartbeats 8000000 in
theorem seg8 (w : World) (mg mb : PySem.Str → Option Value) (mean : ExcName → Option Value) (dp un : Nat) (gd : Option (List Code)) (fa : Addr) (ccd : Value) (outer : List Env) (A₀ : Around) (base h₀ : Heap) (L : Addr) (m : PySem.Str → Option Value) (s : Shared) (Q : Flow → Shared → Prop) (E : Value → Shared → Prop)
    (B : Below A₀ base outer h₀) (X : (hd.heap_39 w.params).In h₀) (T : Top hd.view_39 (looseW hd.view_39 [PySem.Str.ofString "small_numeral", PySem.Str.ofString "numeral"]) mean mg mb h₀) (hdp : dp + 4 < recursionLimit) (hun : un + 64 < cLine)
    (o6 o5 o4 o3 o2 o1 : Obj) (b sz : Nat) (P : List Nat) (tb ts tr : Tok) (hb2 : 2 ≤ b) (hb36 : b ≤ 36) (hs1 : 1 ≤ sz) (hs2 : sz ≤ 46) (hP : P.length = sz) (hPb : ∀ d ∈ P, d < b)
    (hhf : sz % 2 = 0 → ∀ k, k < sz / 2 → P.getD k 0 + P.getD (k + sz / 2) 0 = b - 1)
    (h3 : o3.data = .cell (some (.int b tb))) (h4 : o4.data = .cell (some (.int sz ts))) (h5 : o5.data = .cell (some (.str (tx P) tr)))
    (F : Fr h₀ L s.heap m) (N : News h₀ L s.heap [(L + 1 + 1 + 1 + 1 + 1 + 1, o6), (L + 1 + 1 + 1 + 1 + 1, o5), (L + 1 + 1 + 1 + 1, o4), (L + 1 + 1 + 1, o3), (L + 1 + 1, o2), (L + 1, o1)])
    (next : ∀ (h' : Heap) (tk' : Nat), 
      Fr h₀ L h' m →
      News h₀ L h' [(L + 1 + 1 + 1 + 1 + 1 + 1, o6), (L + 1 + 1 + 1 + 1 + 1, o5), (L + 1 + 1 + 1 + 1, o4), (L + 1 + 1 + 1, o3), (L + 1 + 1, o2), (L + 1, o1)] →
      wpAny (model PySem.Challenge.rw_aw5006_01.row.prog w) (lawA dp un gd L fa ccd outer) (execs (lawB.drop 11) (lawEnv L fa ccd)) Q E { s with heap := h', toks := tk' }) :
    wpAny (model PySem.Challenge.rw_aw5006_01.row.prog w) (lawA dp un gd L fa ccd outer) (execs (lawB.drop 10) (lawEnv L fa ccd)) Q E s := by
  revert X
  k_fill
  w_top off
  intro X
  have hfm : (sz : Int).fmod 2 = ((sz % 2 : Nat) : Int) := by
    rw [Int.fmod_eq_emod_of_nonneg _ (by omega)]; rfl
  have hfd : (sz : Int).fdiv 2 = ((sz / 2 : Nat) : Int) := by
    rw [Int.fdiv_eq_ediv_of_nonneg _ (by omega)]; rfl
  have e : ∀ x, x = lawB.drop 10 → wpAny (model PySem.Challenge.rw_aw5006_01.row.prog w) (lawA dp un gd L fa ccd outer) (execs x (lawEnv L fa ccd)) Q E s := by
    intro x hx
    conv at hx => rhs; whnf
    subst hx
    iterate 11 (walk_at "kstep")
    rw [hfm]
    split
    · rename_i hz
      have hz' : sz % 2 = 0 := Int.ofNat_eq_zero.mp (beq_iff_eq.mp hz)
      replace hhf := hhf hz'
      iterate 2 (walk_at "kstep")
      k_dflt (refine LCg.ListComp_U (F₀ := F) (by with_unfolding_all rfl) (by decide) (by rfl) (by decide) (by rfl) ?_)
      iterate 8 (walk_at "kstep")
      rw [hfd]
      iterate 2 (walk_at "kstep")
      rename IsRange _ _ _ _ _ _ _ _ => rgX
      rename Fr _ _ _ _ => F1
      rename News _ _ _ _ => N1
      refine LCg.CompSrc.range (n := sz / 2) rfl F1 N1 rgX (small_one (by omega) (by omega) (by omega) (by omega)) (by rw [rangeSize_nat]; omega) (by rw [sizeLine_eq]; omega) (fun g => kcf_range (fun k => ((P.getD k.toNat 0 + P.getD (k.toNat + sz / 2) 0 : Nat) : Int)) ?turn ?fin)
      case fin =>
        unfold KPfDone LCg.FinE
        intro ys hys D h' tk' F' N' o1'
        dsimp only
        iterate 16 (walk_at "kstep")
        have hAB := half_lists hb2 hhf
        have htn : ((sz : Int).fdiv 2).toNat = sz / 2 := by rw [hfd, Int.toNat_natCast]
        rw [htn, hAB]
        rename News _ _ _ _ => N4
        rename Fr _ _ _ _ => F4
        rw [if_neg (by simp)]
        iterate 3 (walk_at "kstep")
        exact next _ _ F4 (cb_drop N4 fun x hx => .tail _ (.tail _ (.tail _ hx)))
      case turn =>
        intro k t I oI C oC D m₂ ys h tk E' hk1 hk2 hC hx FF NN off ne mk
        dsimp only
        obtain ⟨j, rfl⟩ : ∃ j : Nat, k = (j : Int) := ⟨k.toNat, (Int.toNat_of_nonneg (by omega)).symm⟩
        iterate 8 (walk_at "kstep")
        have hPl : (tx P).length = sz := by rw [tx_length, hP]
        have hj : j < sz / 2 := by omega
        refine item_str (fitsSsize_of (N := 9223372036854775808) (by omega) (by omega) (Int.le_refl _)) (by omega) (by omega) (fun _ => ?_)
        rw [item_tx' P (by omega : j < P.length)]
        dsimp only
        iterate 3 (walk_at "kstep")
        refine call_int2 hb2 hb36 (fun d hd => by rw [List.mem_singleton.mp hd]; exact getD_lt hPb (by omega)) (by simp) (by simp) ?_
        rw [valB_one]
        dsimp only
        iterate 11 (walk_at "kstep")
        iterate 2 (walk_at "kstep")
        rw [hfd, ← Int.natCast_add]
        dsimp only
        refine item_str (fitsSsize_of (N := 9223372036854775808) (by omega) (by omega) (Int.le_refl _)) (by omega) (by omega) (fun _ => ?_)
        rw [item_tx' P (by omega : j + sz / 2 < P.length)]
        dsimp only
        iterate 3 (walk_at "kstep")
        refine call_int2 hb2 hb36 (fun d hd => by rw [List.mem_singleton.mp hd]; exact getD_lt hPb (by omega)) (by simp) (by simp) ?_
        rw [valB_one]
        dsimp only
        refine add_int ?_
        rename News _ _ _ _ => N6
        rename Fr _ _ _ _ => F6
        exact LCg.CompEnd.intro F6 N6 _ (fun x hx => hx) off trivial (kcf_el (by simp) rfl rfl)
    · iterate 3 (walk_at "kstep")
      exact next _ _ F N
  exact e _ rfl
/-! L9 -/
theorem fr_pin {h₀ h : Heap} {L : Addr} {m : PySem.Str → Option Value} {x : PySem.Str} {v : Value} (F : Fr h₀ L h m) (hx : m x = some v) : Fr h₀ L h (fun y => if y = x then some v else m y) := by
  have e : (fun y => if y = x then some v else m y) = m := by
    funext y
    split
    · rename_i hy; rw [hy]; exact hx.symm
    · rfl
  rw [e]; exact F
set_option maxRecDepth 100000 in
set_option maxHeartbeats 8000000 in
theorem seg9 (w : World) (mg mb : PySem.Str → Option Value) (mean : ExcName → Option Value) (dp un : Nat) (gd : Option (List Code)) (fa : Addr) (ccd : Value) (outer : List Env) (A₀ : Around) (base h₀ : Heap) (L : Addr) (m : PySem.Str → Option Value) (s : Shared) (Q : Flow → Shared → Prop) (E : Value → Shared → Prop)
    (B : Below A₀ base outer h₀) (X : (hd.heap_39 w.params).In h₀) (T : Top hd.view_39 (looseW hd.view_39 [PySem.Str.ofString "small_numeral", PySem.Str.ofString "numeral"]) mean mg mb h₀)
    (o6 o5 o4 o3 o2 o1 : Obj) (p b n sz : Nat) (P : List Nat) (tp tb tn ts tr : Tok) (hp2 : p ≤ 47) (hb2 : 2 ≤ b) (hb36 : b ≤ 36) (hn : n < 1000) (hs1 : 1 ≤ sz) (hs2 : sz ≤ 46) (hP : P.length = sz) (hPb : ∀ d ∈ P, d < b)
    (hval : valB b P * p = n * (b ^ sz - 1))
    (h2 : o2.data = .cell (some (.int p tp))) (h3 : o3.data = .cell (some (.int b tb))) (h4 : o4.data = .cell (some (.int sz ts))) (h5 : o5.data = .cell (some (.str (tx P) tr))) (hm : m (PySem.Str.ofString "numerator") = some (.int n tn))
    (F₀ : Fr h₀ L s.heap m) (N : News h₀ L s.heap [(L + 1 + 1 + 1 + 1 + 1 + 1, o6), (L + 1 + 1 + 1 + 1 + 1, o5), (L + 1 + 1 + 1 + 1, o4), (L + 1 + 1 + 1, o3), (L + 1 + 1, o2), (L + 1, o1)])
    (hQ : ∀ (m' : PySem.Str → Option Value) (h' : Heap) (tk' : Nat), Fr h₀ L h' m' → Q (.ret (.bool true)) { s with heap := h', toks := tk' }) :
    wpAny (model PySem.Challenge.rw_aw5006_01.row.prog w) (lawA dp un gd L fa ccd outer) (execs (lawB.drop 11) (lawEnv L fa ccd)) Q E s := by
  revert X
  k_fill
  w_top off
  intro X
  have F := fr_pin F₀ hm
  clear F₀
  have e : ∀ x, x = lawB.drop 11 → wpAny (model PySem.Challenge.rw_aw5006_01.row.prog w) (lawA dp un gd L fa ccd outer) (execs x (lawEnv L fa ccd)) Q E s := by
    intro x hx
    conv at hx => rhs; whnf
    subst hx
    iterate 12 (walk_at "kstep")
    refine call_int2 hb2 hb36 hPb (fun h0 => by rw [h0] at hP; simp at hP; omega) (by omega) ?_
    iterate 1 (walk_at "kstep")
    refine mul_int ?_ (IntMulOk.of_right (intBits_le_64 (by omega) (by omega)))
    have hbp : 1 ≤ b ^ sz := Nat.pow_pos (by omega)
    have hvi : ((valB b P : Nat) : Int) * (p : Int) = (n : Int) * ((b : Int) ^ (sz : Int).toNat - 1) := by
      rw [Int.toNat_natCast, ← Int.natCast_mul, hval, Int.natCast_mul, Int.natCast_sub hbp, Int.natCast_pow]; rfl
    rw [hvi]
    dsimp only
    iterate 9 (walk_at "kstep")
    refine mul_int ?_ (IntMulOk.of_left (intBits_le_64 (by omega) (by omega)))
    dsimp only
    iterate 1 (walk_at "kstep")
    show Q (.ret (.bool ((n : Int) * ((b : Int) ^ (sz : Int).toNat - 1) == (n : Int) * ((b : Int) ^ (sz : Int).toNat - 1)))) _
    rw [beq_self_eq_true]
    exact hQ _ _ _ F
  exact e _ rfl
/-! Fin -/
abbrev cellsOf (L : Addr) (o6 o5 o4 o3 o2 o1 : Obj) : List (Addr × Obj) := [(L + 1 + 1 + 1 + 1 + 1 + 1, o6), (L + 1 + 1 + 1 + 1 + 1, o5), (L + 1 + 1 + 1 + 1, o4), (L + 1 + 1 + 1, o3), (L + 1 + 1, o2), (L + 1, o1)]
set_option maxRecDepth 100000 in
theorem law_body (w : World) (mg mb : PySem.Str → Option Value) (mean : ExcName → Option Value) (dp un : Nat) (gd : Option (List Code)) (fa : Addr) (ccd : Value) (outer : List Env) (A₀ : Around) (base h₀ : Heap) (L : Addr) (m : PySem.Str → Option Value) (s : Shared) (Q : Flow → Shared → Prop) (E : Value → Shared → Prop)
    (B : Below A₀ base outer h₀) (X : (hd.heap_39 w.params).In h₀) (T : Top hd.view_39 (looseW hd.view_39 [PySem.Str.ofString "small_numeral", PySem.Str.ofString "numeral"]) mean mg mb h₀) (hdp : dp + 4 < recursionLimit) (hun : un + 64 < cLine)
    (hE : PassesOwn (model PySem.Challenge.rw_aw5006_01.row.prog w) (lawA dp un gd L fa ccd outer) (lawEnv L fa ccd) E)
    (l : Addr) (vs : List Value) (ns : List Int) (hl : h₀.IsList l vs.toArray) (hi : IntsAre vs ns) (hlen : ns.length ≤ 63)
    (o6 o5 o4 o3 o2 o1 : Obj) (h1 : o1.data = .cell (some (.ref l))) (h2 : ∃ v, o2.data = .cell v) (h3 : ∃ v, o3.data = .cell v) (h4 : ∃ v, o4.data = .cell v) (h5 : ∃ v, o5.data = .cell v) (h6 : ∃ v, o6.data = .cell v)
    (F : Fr h₀ L s.heap m) (N : News h₀ L s.heap (cellsOf L o6 o5 o4 o3 o2 o1))
    (hQ : ∀ (m' : PySem.Str → Option Value) (h' : Heap) (tk' : Nat), Fr h₀ L h' m' → Q (.ret (.bool true)) { s with heap := h', toks := tk' }) :
    wpAny (model PySem.Challenge.rw_aw5006_01.row.prog w) (lawA dp un gd L fa ccd outer) (execs (lawB.drop 0) (lawEnv L fa ccd)) Q E s := by
  have hall : ∀ p ∈ primesL, 3 ≤ p ∧ p ≤ 47 := by decide
  have hun4 : un + 8 * 4 < cLine := by omega
  refine seg0 w mg mb mean dp un gd fa ccd outer A₀ base h₀ L m s Q E B X T l vs ns hl hi hlen o6 o5 o4 o3 o2 o1 h1 F N ?_
  intro d0 d1 d2 ys D g0 t0 hD hys F0 N0
  refine seg1 w mg mb mean dp un gd fa ccd outer A₀ base h₀ L m _ Q E B X T d0 d1 d2 ys D hys o6 o5 o4 o3 o2 o1 hD h2 h3 F0 N0 ?_
  intro p b tp tb q2 q3 g1 t1 hp hb2 hb36 hbp hq2 hq3 F1 N1
  refine seg2 w mg mb mean dp un gd fa ccd outer A₀ base h₀ L m _ Q E B X T d0 d1 d2 ys D hys o6 o5 o4 q3 q2 o1 p tp hp hq2 F1 N1 ?_
  intro n tn m2 g2 t2 hn1 hnp F2 N2
  obtain ⟨hp3, hp47⟩ := hall p hp
  obtain ⟨sz, hs1, hs2, hord, hmin⟩ := order (p := p) (b := b) hp hbp
  obtain ⟨rest, hlist⟩ := order_list hs1 hs2 hord hmin
  have W : LawNum p b n sz := ⟨hp, hb2, hn1, hnp, hs1, hord, hmin⟩
  have hR0 := rn_pos (n := n) (by omega : 2 ≤ p) hb2 hs1 hord hn1
  have hR1 := rn_lt (n := n) (by omega : 2 ≤ p) hb2 hord hnp
  have hdig := bd_lt hb2 sz (Rn p b n sz)
  have hlP := bd_length b sz (Rn p b n sz)
  refine seg3 w mg mb mean dp un gd fa ccd outer A₀ base h₀ L _ _ Q E B X T o6 o5 o4 q3 q2 o1 p b tp tb hp hb2 hb36 hq2 hq3 h4 sz rest hlist F2 N2 ?_
  intro ts q4 g3 t3 hq4 F3 N3
  refine seg4 w mg mb mean dp un gd fa ccd outer A₀ base h₀ L m2 _ Q E B X T hdp hun4 o6 o5 q4 q3 q2 o1 p b n sz tp tb tn ts hp3 hp47 hb2 hb36 (by omega) hs1 (by omega) hR0 hR1 hq2 hq3 hq4 h5 F3 N3 ?_
  intro tr to q5 g4 t4 hq5 F4 N4
  -- the long number
  have ho1 : 1 ≤ 1 + 250 / sz := Nat.le_add_right 1 _
  have ho : (1 + 250 / sz) * sz ≤ 300 := by
    rw [Nat.add_mul, Nat.one_mul]
    have := Nat.div_mul_le_self 250 sz
    omega
  have hord2 := pow_one_mod (by omega : 2 ≤ p) hord (1 + 250 / sz)
  have hk1 : 1 ≤ (1 + 250 / sz) * sz := Nat.le_trans hs1 (Nat.le_mul_of_pos_left sz (by omega))
  have hS0 := rn_pos (n := n) (by omega : 2 ≤ p) hb2 hk1 hord2 hn1
  have hS1 := rn_lt (n := n) (by omega : 2 ≤ p) hb2 hord2 hnp
  have hrep : tx (bd b ((1 + 250 / sz) * sz) (Rn p b n ((1 + 250 / sz) * sz))) = Txt.mul (tx (bd b sz (Rn p b n sz))) ((1 + 250 / sz : Nat) : Int) := by
    rw [period_rep (by omega : 2 ≤ p) hb2 hord hnp, mul_tx _ _ ho1]
  refine seg5 w mg mb mean dp un gd fa ccd outer A₀ base h₀ L m2 _ Q E B X T hdp hun4 o6 q5 q4 q3 q2 o1 p b n sz (1 + 250 / sz) tp tb tn ts tr to hp3 hp47 hb2 hb36 (by omega) hs1 (by omega) ho1 ho hS0 hS1 hrep hq2 hq3 hq4 hq5 F4 N4 ?_
  intro g5 t5 F5 N5
  -- the rotation
  obtain ⟨hn'1, hrot⟩ := rotate (by omega : 2 ≤ p) hb2 hs1 hord hn1 hnp
  have hn'2 : n * b % p < p := Nat.mod_lt _ (by omega)
  have hT0 := rn_pos (n := n * b % p) (by omega : 2 ≤ p) hb2 hs1 hord hn'1
  have hT1 := rn_lt (n := n * b % p) (by omega : 2 ≤ p) hb2 hord hn'2
  have hsl : tx (bd b sz (Rn p b (n * b % p) sz)) = Txt.slice (tx (bd b sz (Rn p b n sz))) (some 1) none ++ Txt.slice (tx (bd b sz (Rn p b n sz))) none (some 1) := by
    rw [slice_from_tx _ (by rw [hlP]; omega), slice_to_tx _ (by rw [hlP]; omega), ← tx_append, hrot]
    rfl
  refine seg6 w mg mb mean dp un gd fa ccd outer A₀ base h₀ L m2 _ Q E B X T hdp hun4 o6 q5 q4 q3 q2 o1 p b n sz (1 + 250 / sz) tp tb tn ts tr to hp3 hp47 hb2 hb36 (by omega) hs1 (by omega) hT0 hT1 hsl hq2 hq3 hq4 hq5 F5 N5 ?_
  intro g6 t6 F6 N6
  refine seg7 w mg mb mean dp un gd fa ccd outer A₀ base h₀ L _ _ Q E B X T hdp hun4 hE o6 q5 q4 q3 q2 o1 b sz (bd b sz (Rn p b n sz)) tb ts tr hb2 hb36 hs1 (by omega) hlP hdig (fun q hq hqs hd => pieces W q hq hqs hd) hq3 hq4 hq5 h6 F6 N6 ?_
  intro q6 m7 g7 t7 hm7 F7 N7
  refine seg8 w mg mb mean dp un gd fa ccd outer A₀ base h₀ L m7 _ Q E B X T hdp hun q6 q5 q4 q3 q2 o1 b sz (bd b sz (Rn p b n sz)) tb ts tr hb2 hb36 hs1 (by omega) hlP hdig (half_digits W) hq3 hq4 hq5 F7 N7 ?_
  intro g8 t8 F8 N8
  refine seg9 w mg mb mean dp un gd fa ccd outer A₀ base h₀ L m7 _ Q E B X T q6 q5 q4 q3 q2 o1 p b n sz (bd b sz (Rn p b n sz)) tp tb tn ts tr hp47 hb2 hb36 (by omega) hs1 (by omega) hlP hdig ?_ hq2 hq3 hq4 hq5 (hm7.trans rfl) F8 N8 ?_
  · rw [valB_bd hb2 sz _ hR1]
    exact rn_mul (by omega) hord
  · intro m9 g9 t9 F9
    exact hQ m9 g9 t9 F9
end Mine
/-! Top -/
set_option maxRecDepth 100000 in
set_option maxHeartbeats 8000000 in
theorem PySem.Challenge.cw_aw5006_01_holds : PySem.Challenge.rw_aw5006_01.Holds := by
  refine Mine.hd ?_
  k_go0
  rename CellsAre _ _ _ => hcells
  clear hcells
  rename News _ _ _ _ => N0
  rename Fr _ _ _ _ => F0
  rename Below _ _ _ _ => K0
  rename_i w6 w5 w4 w3 w2 w1 c6 c5 c4 c3 c2 c1
  refine Mine.law_body _ _ _ _ _ _ _ _ _ _ _ _ _ _ _ _ _ _ K0 (by assumption) (by assumption) ?hdp ?hun ?hE _ _ _ (by assumption) (by assumption) ?hlen w6 w5 w4 w3 w2 w1 (c1.trans rfl) ⟨_, c2⟩ ⟨_, c3⟩ ⟨_, c4⟩ ⟨_, c5⟩ ⟨_, c6⟩ F0 N0 ?hQ
  case hdp => decide
  case hun => ktr_units
  case hE => first | passes_own | with_unfolding_all passes_own
  case hlen => omega
  case hQ =>
    intro m' h' tk' F'
    wrow_close
