import PyProof.Rows.All
import Wide.All
import OpenK.AllK
import Wide.FinOn
import PySem.Challenge.RW_kp0007_01
set_option Elab.async false
set_option maxRecDepth 100000
namespace Mine

section
open PySem PySem.W PyProof.Rows
set_option maxRecDepth 100000 in
set_option maxHeartbeats 8000000 in
open_top hd for PySem.Challenge.rw_kp0007_01

end

section
open PySem PySem.W PyProof.Rows
open Builtin.Int (intBits)

section
variable {M : Model} {A : Around} {E : Value → Shared → Prop} {s : Shared}
theorem binop1_refl {a b : Value} {T U nm idr : String} {Q : Option Value → Shared → Prop} (hTU : T ≠ U) (ha : s.TypeIs a T) (hb : s.TypeIs b U)
    (hfT : fillsNumberSlot (.type T) nm = pure true) (hfU : fillsNumberSlot (.type U) nm = pure true) (hsub : isSubtype (.type U) (.type T) = pure true)
    (hdiff : reflectedDiffers (.type T) (.type U) nm = pure true) (hr : Slot U (dunderR nm) idr)
    (hc : wpAny M A (call (.builtin idr) [b, a]) (fun v s₁ => v ≠ .notImplemented ∧ Q (some v) s₁) E s) : wpAny M A (binaryOp1 nm a b) Q E s := by
  simp only [binaryOp1]
  refine wpAny_bind (wpAny_typeOf ha (wpAny_bind (wpAny_typeOf hb (wpAny_bind (wpAny_of_eq hfT ?_)))))
  have hne : (Value.type T == Value.type U) = false := by simpa using hTU
  simp only [hne, Bool.false_eq_true, if_false]
  refine wpAny_bind (wpAny_of_eq hfU ?_)
  simp only [Bool.and_self, if_true]
  refine wpAny_bind (wpAny_of_eq hsub ?_)
  simp only [if_true]
  refine wpAny_bind (wpAny_of_eq hdiff ?_)
  simp only [if_true]
  refine wpAny_bind (wpAny_rule ?_)
  simp only [tryMethod]
  refine wpAny_bind (wpAny_bind (wpAny_callSpecial?_slot hb hr (wpAny_mono hc (fun v s₁ h₁ => ?_) fun _ _ x => x)))
  obtain ⟨hv, hq⟩ := h₁
  cases v <;> first | exact absurd rfl hv | exact wpAny_pure (wpAny_pure hq)
end

theorem diff_int_bool_or : reflectedDiffers (.type "int") (.type "bool") "or" = pure true := by
  unfold reflectedDiffers
  show (typeLookup (.type "bool") (dunderR "or") >>= fun rb => typeLookup (.type "int") (dunderR "or") >>= fun ra => pure (rb.isSome && rb != ra)) = pure true
  rw [typeLookup_type, typeLookup_type, builtinLookup_eq_fast]; kernel_rfl

theorem int_or_int_bool (a : Int) (t : Tok) (b : Bool) :
    Gives (Builtin.«int.__or__» ⟨[.int a t, .bool b], []⟩) (.int (Builtin.bitOr a (if b = true then (1 : Int) else 0))) :=
  .of_eq rfl
theorem bool_ror_bool_int (a : Int) (t : Tok) (b : Bool) :
    Gives (Builtin.«bool.__ror__» ⟨[.bool b, .int a t], []⟩) (.int (Builtin.bitOr a (if b = true then (1 : Int) else 0))) := by
  have h1 : Gives (again (.builtin "int.__or__" ⟨[.int a t, .bool b], []⟩)) (.int (Builtin.bitOr a (if b = true then (1 : Int) else 0))) :=
    .again rfl (by decide +kernel) F.entry_int_or (int_or_int_bool a t b)
  have h2 := Gives.rule (tag := "bool.bitwise.as-ints") h1
  refine cast (congrArg (fun t => Gives t _) ?_) h2
  kernel_rfl

section
variable {prog : Program} {w : World} {A : Around} {E : Value → Shared → Prop} {s : Shared} {Q : Value → Shared → Prop} {a b : Int} {t u : Tok}
set_option maxHeartbeats 4000000 in
/-- an int | a bool: bool's own slot stands first -/
theorem or_int_bool {c : Bool} (h : Q (.int (Builtin.bitOr a (if c = true then (1 : Int) else 0)) s.toks) { s with toks := s.toks + 1 }) :
    wpAny (model prog w) A (binaryOp .BitOr (.int a t) (.bool c)) Q E s := by
  have hT : s.TypeIs (.bool c) "bool" := rfl
  have hc : wpAny (model prog w) A (call (.builtin "bool.__ror__") [.bool c, .int a t]) (fun v s₁ => v ≠ .notImplemented ∧ Q v s₁) E s :=
    call_gives F.slot_bool_ror hT F.entry_bool_ror (F.args_bool_ror_2 _ _) (bool_ror_bool_int a t c) (Made.post_and trivial h)
  show wpAny _ _ (binaryOp .BitOr (.int a t) (.bool c)) Q E s
  have hi : Operator.info .BitOr = ("|", "or") := rfl
  simp only [binaryOp, hi]
  refine wpAny_holding ?_
  refine wpAny_bind ?_
  refine binop1_refl (idr := "bool.__ror__") (T := "int") (U := "bool") ?a1 ?a2 ?a3 ?a4 ?a5 ?a6 ?a7 ?a8 ?_
  case a1 => decide
  case a2 => exact typeIs_int s a t
  case a3 => exact hT
  case a4 => exact F.fills_int_or
  case a5 => exact F.fills_bool_or
  case a6 => exact isSubtype_bool_int
  case a7 => exact diff_int_bool_or
  case a8 => exact F.slot_bool_ror
  exact wpAny_mono hc (fun v s₁ h₁ => ⟨h₁.1, wpAny_pure h₁.2⟩) fun _ _ x => x

theorem log2_of_bits {x : Int} {m : Nat} (h : intBits x ≤ m + 1) : x.natAbs.log2 ≤ m := by
  have h1 := intBits_le_iff.mp h
  by_cases h0 : x.natAbs = 0
  · rw [h0, Nat.log2_zero]; exact Nat.zero_le _
  · exact Nat.le_of_lt_succ ((Nat.log2_lt h0).mpr h1)

theorem floordiv_bits (hb : b ≠ 0) (hs : intBits b ≤ 8999) (h : Q (.int (a.fdiv b) s.toks) { s with toks := s.toks + 1 }) : wpAny (model prog w) A (binaryOp .FloorDiv (.int a t) (.int b u)) Q E s := by
  have hl : b.natAbs.log2 ≤ 8998 := log2_of_bits hs
  exact floordiv_int hb h (.inl (PyProof.noPylong_of_log2 (by omega)))

theorem isqrt_bits (h0 : 0 ≤ a) (hs : intBits a ≤ 13000) (h : Q (.int ((Float64.isqrt a.toNat : Nat) : Int) s.toks) { s with toks := s.toks + 1 }) :
    wpAny (model prog w) A (call (.builtin "math.isqrt") [.int a t]) Q E s := by
  have hl : a.toNat.log2 ≤ 12999 := by
    have h1 : a.natAbs.log2 ≤ 12999 := log2_of_bits hs
    have e : a.natAbs = a.toNat := by omega
    rw [e] at h1; exact h1
  exact call_function_meets MGF.kind_isqrt MGF.plain_isqrt MGF.entry_isqrt (MGF.args_isqrt _) (mg_run_isqrt a t (by omega) (by omega) (by omega)).meets h

theorem mul_bits {m n : Nat} (ha : intBits a ≤ m) (hb : intBits b ≤ n) (h : m + n ≤ 134217728) (hq : Q (.int (a * b) s.toks) { s with toks := s.toks + 1 }) : wpAny (model prog w) A (binaryOp .Mult (.int a t) (.int b u)) Q E s :=
  mul_int hq (.of_le ha hb h)
end

end

section
open PySem PySem.W PyProof.Rows
theorem item_any {prog : Program} {w : World} {A : Around} {E : Value → Shared → Prop} {s : Shared} {value slice : PySem.Expr} {l : Addr} {vs : List Value} {ns : List Int} {k : Int} {u : Tok} {Q : Value → Shared → Prop} (hl : s.heap.IsList l vs.toArray) (hi : IntsAre vs ns)
    (h0 : -(ns.length : Int) ≤ k) (h1 : k < ns.length) (hsz : ns.length < 2 ^ 62) (h : ∀ y t, Q (.int y t) s)
    (hs : subscripted slice false (.ref l) (.int k u) = operate [.ref l, .int k u] (getItem (.ref l) (.int k u)) := by with_unfolding_all rfl) :
    wpAny (model prog w) A (subscriptTail value slice (.ref l) (.int k u)) Q E s := by
  by_cases hk : k < 0
  · exact item_list_ints_negR hl hi hk h0 (by omega) (fun t => h _ t) hs
  · exact item_list_intsR hl hi (by omega) h1 (by omega) (fun t => h _ t) hs
theorem ints3 {h₀ h : Heap} {L l : Addr} {a b c : Int} {t u v : Tok} {n : Nat} {rest : List (Addr × Obj)} (_ : News h₀ L h ((l, W.listOf #[.int a t, .int b u, .int c v] n) :: rest)) :
    IntsAre [.int a t, .int b u, .int c v] [a, b, c] := .cons _ _ (.cons _ _ (.cons _ _ .nil))
theorem ints2 {h₀ h : Heap} {L l : Addr} {a b : Int} {t u : Tok} {n : Nat} {rest : List (Addr × Obj)} (_ : News h₀ L h ((l, W.listOf #[.int a t, .int b u] n) :: rest)) :
    IntsAre [.int a t, .int b u] [a, b] := .cons _ _ (.cons _ _ .nil)

end

section
open PySem PySem.W PyProof.Rows
open Builtin.Int (intBits)
section
variable {prog : Program} {w : World} {A : Around} {E : Value → Shared → Prop} {s : Shared}
theorem store_gen {env : Env} {n : Str} {x : Int} {t : Tok} {Q : Unit → Shared → Prop} (P : Int → Prop) (hx : P x) (h : ∀ x', P x' → wpAny (model prog w) A (storeName env n (.int x' t)) Q E s) : wpAny (model prog w) A (storeName env n (.int x t)) Q E s := h x hx
theorem pow4_gen {n : Int} {t u : Tok} {Q : Value → Shared → Prop} (h0 : 0 ≤ n) (h1 : n ≤ 1200) (h : ∀ P t', 0 < P → intBits P ≤ 3601 → Q (.int P t') { s with toks := s.toks + 1 }) : wpAny (model prog w) A (binaryOp .Pow (.int 4 t) (.int n u)) Q E s := by
  refine pow_int_small h0 (by omega) (by decide) (h _ _ ?_ ?_)
  · exact Int.pow_pos (by decide)
  · refine Nat.le_trans (intBits_pow_le (m := 3) (by decide) n.toNat) ?_
    omega
theorem fm_bd (y : Int) : 0 ≤ y.fmod 2101 ∧ y.fmod 2101 < 2101 := ⟨Int.fmod_nonneg_of_pos y (by decide), Int.fmod_lt_of_pos y (by decide)⟩
theorem pow4_pos {y : Int} {t u : Tok} {Q : Value → Shared → Prop} (h : ∀ P t', 0 < P → intBits P ≤ 3601 → Q (.int P t') { s with toks := s.toks + 1 }) : wpAny (model prog w) A (binaryOp .Pow (.int 4 t) (.int (if 0 > y.fmod 2101 - 1130 then 0 else y.fmod 2101 - 1130) u)) Q E s := by
  have hy := fm_bd y
  refine pow4_gen ?_ ?_ h <;> split <;> omega
theorem pow4_neg {y : Int} {t u : Tok} {Q : Value → Shared → Prop} (h : ∀ P t', 0 < P → intBits P ≤ 3601 → Q (.int P t') { s with toks := s.toks + 1 }) : wpAny (model prog w) A (binaryOp .Pow (.int 4 t) (.int (if 0 > -(y.fmod 2101 - 1130) then 0 else -(y.fmod 2101 - 1130)) u)) Q E s := by
  have hy := fm_bd y
  refine pow4_gen ?_ ?_ h <;> split <;> omega
end
theorem s_bd (y : Int) : 0 ≤ y.fmod 2101 ∧ y.fmod 2101 < 2101 := ⟨Int.fmod_nonneg_of_pos y (by decide), Int.fmod_lt_of_pos y (by decide)⟩
theorem third_bd {t : Int} (h : t ∈ [-1, 0, 1]) : -1 ≤ t ∧ t ≤ 1 := by
  simp only [List.mem_cons, List.not_mem_nil, or_false] at h
  omega
theorem fac_bd {f y : Int} (h : f ∈ [1, 1 + y.fmod 1000]) : 1 ≤ f ∧ f ≤ 1000 := by
  have h0 := Int.fmod_nonneg_of_pos y (b := 1000) (by decide)
  have h1 := Int.fmod_lt_of_pos y (b := 1000) (by decide)
  simp only [List.mem_cons, List.not_mem_nil, or_false] at h
  omega
theorem mid_bd {w x : Int} (h0 : 0 ≤ w) (h1 : w < 53) : 3 ≤ 2 * (2 ^ w.toNat + x.fmod (2 ^ w.toNat)) + 1 ∧ 2 * (2 ^ w.toNat + x.fmod (2 ^ w.toNat)) + 1 < 2 ^ 54 := by
  have hp : (0 : Int) < 2 ^ w.toNat := Int.pow_pos (by decide)
  have hle : (2 : Int) ^ w.toNat ≤ 2 ^ 52 := by
    have : (2 : Nat) ^ w.toNat ≤ 2 ^ 52 := Nat.pow_le_pow_right (by decide) (by omega)
    exact_mod_cast this
  have h2 := Int.fmod_nonneg_of_pos x hp
  have h3 := Int.fmod_lt_of_pos x hp
  generalize (2 : Int) ^ w.toNat = p at *
  omega
theorem bits_core {mid third : Int} (h : 3 ≤ mid ∧ mid < 2 ^ 54) (ht : -1 ≤ third ∧ third ≤ 1) : intBits (3 * mid * mid + third) ≤ 200 := by
  have hm : intBits mid ≤ 64 := intBits_le_64 (by omega) (by omega)
  have h1 : intBits third ≤ 64 := intBits_le_64 (by omega) (by omega)
  refine Nat.le_trans (intBits_add_le (intBits_mul_le (intBits_mul_le (m := 2) (by decide) hm) hm) h1) (by decide)
theorem core_pos {mid third : Int} (h : 3 ≤ mid ∧ mid < 2 ^ 54) (ht : -1 ≤ third ∧ third ≤ 1) : 0 < 3 * mid * mid + third := by
  have h1 : 3 * mid * 3 ≤ 3 * mid * mid := Int.mul_le_mul_of_nonneg_left (by omega) (by omega)
  omega
/-- what the law asks of `_law_right` -/
def Pre (n m : Int) : Prop := 0 < n ∧ 0 < m ∧ intBits n ≤ 4000 ∧ intBits m ≤ 4000
theorem pre_of {mid third f P P' : Int} (h : 3 ≤ mid ∧ mid < 2 ^ 54) (ht : -1 ≤ third ∧ third ≤ 1) (hf : 1 ≤ f ∧ f ≤ 1000) (hP : 0 < P) (hP' : 0 < P') (bP : intBits P ≤ 3601) (bP' : intBits P' ≤ 3601) :
    Pre ((3 * mid * mid + third) * P * f) (3 * P' * f) := by
  have hfb : intBits f ≤ 64 := intBits_le_64 (by omega) (by omega)
  refine ⟨?_, ?_, ?_, ?_⟩
  · exact Int.mul_pos (Int.mul_pos (core_pos h ht) hP) (by omega)
  · exact Int.mul_pos (Int.mul_pos (by decide) hP') (by omega)
  · exact Nat.le_trans (intBits_mul_le (intBits_mul_le (bits_core h ht) bP) hfb) (by decide)
  · exact Nat.le_trans (intBits_mul_le (intBits_mul_le (m := 2) (by decide) bP') hfb) (by decide)

end

section
open PySem PySem.W PyProof.Rows
open Builtin.Int (intBits)
/-- 2 ** k, kept folded -/
def P2 (k : Nat) : Int := 2 ^ k
def lim : Int := P2 1024 - P2 970
def lim2 : Int := lim * lim
theorem P2_pos (k : Nat) : 0 < P2 k := Int.pow_pos (by decide)
theorem P2_nat (k : Nat) : P2 k = ((2 ^ k : Nat) : Int) := by unfold P2; simp
theorem P2_bits (k : Nat) : intBits (P2 k) ≤ k + 1 := by
  refine intBits_le_iff.mpr ?_
  have e : (P2 k).natAbs = 2 ^ k := by rw [P2_nat]; rfl
  rw [e]
  exact Nat.pow_lt_pow_right (by decide) (Nat.lt_succ_self k)
theorem lim_bits : intBits lim ≤ 1026 := Nat.le_trans (intBits_sub_le (P2_bits 1024) (P2_bits 970)) (by decide)
theorem lim2_bits : intBits lim2 ≤ 2052 := intBits_mul_le lim_bits lim_bits
section
variable {prog : Program} {w : World} {A : Around} {E : Value → Shared → Prop} {s : Shared} {Q : Value → Shared → Prop} {a b : Int} {t u : Tok}
theorem pow2_k {k : Nat} (hk : a = (k : Int)) (hs : k ≤ 1000000) (h : Q (.int (P2 k) s.toks) { s with toks := s.toks + 1 }) : wpAny (model prog w) A (binaryOp .Pow (.int 2 t) (.int a u)) Q E s := by
  subst hk
  refine pow_int_small (by omega) (by omega) (by decide) ?_
  exact h
theorem pow_lim (h : Q (.int lim2 s.toks) { s with toks := s.toks + 1 }) : wpAny (model prog w) A (binaryOp .Pow (.int (P2 1024 - P2 970) t) (.int 2 u)) Q E s := by
  have hb : intBits (P2 1024 - P2 970) ≤ 1026 := lim_bits
  have e : (P2 1024 - P2 970) ^ (2 : Int).toNat = lim2 := by
    show lim ^ 2 = lim * lim
    generalize lim = x
    rw [Int.pow_succ, Int.pow_succ, Int.pow_zero, Int.one_mul]
  refine pow_int (by decide) ?_ ?_
  · generalize intBits (P2 1024 - P2 970) = k at hb
    omega
  · rw [e]; exact h
theorem lshift_bits {n : Nat} (h0 : 0 ≤ b) (h1 : b ≤ 100000) (hs : intBits a ≤ n) (hn : n ≤ 100000) (h : Q (.int (a * 2 ^ b.toNat) s.toks) { s with toks := s.toks + 1 }) : wpAny (model prog w) A (binaryOp .LShift (.int a t) (.int b u)) Q E s :=
  lshift_int h0 (by omega) h
theorem lshift_P2 {n : Nat} (h0 : 0 ≤ b) (h1 : b ≤ 100000) (hs : intBits a ≤ n) (hn : n ≤ 100000) (h : Q (.int (a * P2 b.toNat) s.toks) { s with toks := s.toks + 1 }) : wpAny (model prog w) A (binaryOp .LShift (.int a t) (.int b u)) Q E s :=
  lshift_int h0 (by omega) h
theorem store_gen2 {env : Env} {nm : Str} {x : Int} {Q : Unit → Shared → Prop} (P : Int → Prop) (hx : P x) (h : ∀ x', P x' → wpAny (model prog w) A (storeName env nm (.int x' t)) Q E s) : wpAny (model prog w) A (storeName env nm (.int x t)) Q E s := h x hx
end
theorem half_bd (d : Int) : 2 * d.fdiv 2 ≤ d ∧ d ≤ 2 * d.fdiv 2 + 1 := by
  have h1 := Int.mul_fdiv_add_fmod d 2
  have h2 := Int.fmod_nonneg_of_pos d (b := 2) (by decide)
  have h3 := Int.fmod_lt_of_pos d (b := 2) (by decide)
  omega
theorem intBits_mulP2 {a : Int} {k j : Nat} (h : intBits a ≤ j) : intBits (a * P2 k) ≤ j + (k + 1) := intBits_mul_le h (P2_bits k)
theorem mulP2_pos {a : Int} {k : Nat} (h : 0 < a) : 0 < a * P2 k := Int.mul_pos h (P2_pos k)

end

section
open PySem PySem.W PyProof.Rows PySem.Spec PySem.Calls
noncomputable abbrev ProgX : Program := PySem.Challenge.rw_kp0007_01.row.prog
noncomputable abbrev LooseX : List Str := looseW hd.view_39 [Str.ofString "_sqrt_bit_width"]
/-- a def's contract: called with vs it hands back R, wherever it is called from -/
abbrev Hands (room : Nat) (w : World) (mean : ExcName → Option Value) (mg mb : Str → Option Value) (f : Addr) (pre : Prop) (vs : List Value) (R : Tok → Value) : Prop :=
  ∀ (news : List (Addr × Obj)) (dp un : Nat) (gd : Option (List Code)) (cn : Str) (cs : Scope) (a : Addr) (ccd : Value) (cl : List (Str × Addr)) (outer : List Env) (A₀ : Around) (base h₀ : Heap) (L : Addr) (m : Str → Option Value) (s : Shared) (Q E : Value → Shared → Prop),
    Below A₀ base outer h₀ → Fr h₀ L s.heap m → (hd.heap_39 w.params).In h₀ → News h₀ L s.heap news → Top hd.view_39 LooseX mean mg mb h₀ → cs.kind = .function → pre → dp + room < recursionLimit → un + 8 * room < cLine →
      CbRet h₀ L m news s Q R → wpAny (model ProgX w) (ktrTop dp un gd cn cs L a ccd cl outer) (call (.ref f) vs) Q E s
/-- the same for a def that catches: it is called from the law's own frame -/
abbrev HandsS (w : World) (mean : ExcName → Option Value) (mg mb : Str → Option Value) (f : Addr) (pre : Prop) (vs : List Value) (R : Tok → Value) : Prop :=
  ∀ (news : List (Addr × Obj)) (dp un : Nat) (gd : Option (List Code)) (cn : Str) (nms : List (Str × NameKind)) (a : Addr) (ccd : Value) (A₀ : Around) (base h₀ : Heap) (L : Addr) (m : Str → Option Value) (s : Shared) (Q E : Value → Shared → Prop),
    Below A₀ base [] h₀ → Fr h₀ L s.heap m → (hd.heap_39 w.params).In h₀ → News h₀ L s.heap news → Top hd.view_39 LooseX mean mg mb h₀ → (hd.heap_39 w.params).In base → Top hd.view_39 LooseX mean mg mb base → pre → dp + 20 < recursionLimit → un + 160 < cLine →
      CbRet h₀ L m news s Q R → wpAny (model ProgX w) { handled := none, depth := dp, frames := some [envOf cn { kind := .function, names := nms, isGenerator := false, isCoroutine := false, more := [] } L a ccd], guards := gd, units := un } (call (.ref f) vs) Q E s

end

section
open PySem PySem.W PyProof.Rows PySem.Spec PySem.Calls
open Builtin.Int (intBits)
def rtoZ (n m : Int) : Int := Builtin.bitOr ((Float64.isqrt (n.fdiv m).toNat : Nat) : Int) (if (((Float64.isqrt (n.fdiv m).toNat : Nat) : Int) * ((Float64.isqrt (n.fdiv m).toNat : Nat) : Int) * m != n) = true then 1 else 0)
theorem fdiv_nn {n m : Int} (h0 : 0 ≤ n) (h1 : 0 < m) : 0 ≤ n.fdiv m := Int.fdiv_nonneg h0 (by omega)
theorem isqrt_bits_le {d : Int} {k : Nat} (h : intBits d ≤ k) : intBits ((Float64.isqrt d.toNat : Nat) : Int) ≤ k := by
  refine intBits_le_of_natAbs ?_ h
  have h1 := (Float64.isqrt_spec d.toNat).1
  have h2 : Float64.isqrt d.toNat ≤ Float64.isqrt d.toNat * Float64.isqrt d.toNat := Nat.le_mul_self _
  generalize Float64.isqrt d.toNat * Float64.isqrt d.toNat = q at h1 h2
  omega
set_option maxRecDepth 100000 in
set_option maxHeartbeats 8000000 in
theorem rto_c (w : World) (mean : ExcName → Option Value) (mg mb : Str → Option Value) (n : Int) (t : Tok) (m : Int) (u : Tok) :
    Hands 2 w mean mg mb 49 (0 ≤ n ∧ 0 < m ∧ intBits n ≤ 12000 ∧ intBits m ≤ 8000) [.int n t, .int m u] (fun tk => .int (rtoZ n m) tk) := by
  k_with_none
  unfold Hands ProgX LooseX
  k_fill
  intro news dp un gd cn cs a ccd cl outer A₀ base h₀ L m' s Q E B F X N T hk hpre hd hu hret
  obtain ⟨hn0, hm0, hnb, hmb⟩ := hpre
  have hq0 := fdiv_nn hn0 hm0
  have hqb : intBits (n.fdiv m) ≤ 12000 := intBits_fdiv_le hnb
  have hab := isqrt_bits_le hqb
  k_with "binaryOp FloorDiv int int" => (refine floordiv_bits (by omega) (by omega) ?_)
  k_with "call builtin:math.isqrt" => (refine isqrt_bits hq0 (by omega) ?_)
  k_with "binaryOp Mult int int" => first | (refine mul_bits hab hab (by decide) ?_) | (refine mul_bits (intBits_mul_le hab hab) hmb (by decide) ?_)
  k_with "binaryOp BitOr int bool" => (refine or_int_bool ?_)
  w_strict (
    refine wpAny_call ?_
    k_dflt cell_enter
    k_steps
    all_goals (cb_end hret))

end

section
open PySem PySem.W PyProof.Rows
open Builtin.Int (intBits)
open Float64 (V decode pack infMag ratio shift)

theorem slot_ratio : Slot "float" "as_integer_ratio" "float.as_integer_ratio" :=
  .of (owner := "float") (n := "as_integer_ratio") (by rw [typeLookup_type, builtinLookup_eq_fast]; kernel_rfl) (by decide +kernel) (by decide +kernel) (by decide +kernel)
    (by first | exact .inl (by decide +kernel) | exact .inr (by decide +kernel)) (by rw [isSubtype_type]; kernel_rfl)
theorem type_ratio : typeOf (.builtin "float.as_integer_ratio") = pure (.type "method_descriptor") := by show builtinType _ = _; rw [builtinType_eq_fast]; kernel_rfl
theorem entry_ratio : entryFor table "float.as_integer_ratio" = some Builtin.«float.as_integer_ratio» := entryFor_of_tree (by kernel_rfl)
theorem args_ratio (a : Value) : argsOk "float.as_integer_ratio" ⟨[a], []⟩ := by
  unfold argsOk; kernel_rfl
theorem getMethod_ratio {M : Model} {A : Around} {E : Value → Shared → Prop} {s : Shared} {x : UInt64} {t : Tok} {pl : Sem Bool} {Q : Value × List Value → Shared → Prop} (h : Q (.builtin "float.as_integer_ratio", [.float x t]) s) : wpAny M A (getMethod (.float x t) "as_integer_ratio" pl) Q E s := by
  with_reducible exact getMethod_builtin (typeIs_float _ _ _) F.plainAttrs_float slot_ratio type_ratio (fun _ e => nomatch e) h

section
variable {prog : Program} {w : World} {A : Around} {E : Value → Shared → Prop} {s : Shared} {Q : Value → Shared → Prop} {x : UInt64} {t : Tok} {h₀ : Heap} {L : Addr} {m : Str → Option Value} {news : List (Addr × Obj)}
theorem ratio_body {mm : Nat} {e : Int} {R : Fin → Shared → Prop} (hd : decode x = .fin false mm e)
    (h : R (.done (.ret (.ref s.heap.objs.size))) { s with toks := s.toks + 1 + 1, heap := s.heap.push { cls := .type "tuple", data := .seq #[.int ((ratio mm e).1 : Nat) s.toks, .int ((ratio mm e).2 : Nat) (s.toks + 1)] } }) :
    wpAny (model prog w) A (Builtin.«float.as_integer_ratio» ⟨[.float x t], []⟩) R E s := by
  unfold Builtin.«float.as_integer_ratio»
  refine wpAny_bind (m := Builtin.Float.floatMethod0 _ _) (wpAny_pure (a := (Value.float x t, x)) ?_)
  dsimp only
  rw [hd]
  dsimp only
  exact wpAny_bind (wpAny_mkInt (wpAny_bind (wpAny_mkInt (wpAny_bind (wpAny_newTuple (wpAny_pure h))))))
theorem call_ratio {mm : Nat} {e : Int} (hd : decode x = .fin false mm e) (F : Fr h₀ L s.heap m) (N : News h₀ L s.heap news)
    (h : ∀ D h' t u tk, Fr h₀ L h' m → News h₀ L h' ((D, { cls := .type "tuple", data := .seq #[.int ((ratio mm e).1 : Nat) t, .int ((ratio mm e).2 : Nat) u] }) :: news) → (∀ p ∈ news, p.1 < D) →
      Q (.ref D) { s with toks := tk, heap := h' }) :
    wpAny (model prog w) A (call (.builtin "float.as_integer_ratio") [.float x t]) Q E s :=
  wpAny_call_entry slot_ratio (typeIs_float s x t) entry_ratio
    (ratio_body hd ⟨_, rfl, h _ _ _ _ _ (F.push _) (N.push F _) (fun p hp => Heap.lt_size (N p hp).1)⟩) (args_ratio _)
end

end

section
open PySem
open Builtin.Int (intBits)
open Float64 (V decode pack infMag ratio shift decode_ge decode_le shift_one V_form decode_pack shift_pos)

theorem bits_of_lt {a k : Nat} (h : a < 2 ^ k) : intBits (a : Int) ≤ k := intBits_le_iff.mpr (by simpa using h)
theorem V_bits {T : Nat} (hT : T < infMag) : intBits ((V T : Nat) : Int) ≤ 2200 := by
  obtain ⟨k, q, hf, hq, _, hV⟩ := V_form T
  refine bits_of_lt ?_
  have hk : k ≤ 2046 := by
    have e : infMag = 2047 * 2 ^ 52 := rfl
    omega
  rw [hV]
  calc q * 2 ^ k < 2 ^ 53 * 2 ^ k := Nat.mul_lt_mul_of_pos_right hq (Nat.two_pow_pos k)
    _ = 2 ^ (53 + k) := (Nat.pow_add ..).symm
    _ ≤ 2 ^ 2200 := Nat.pow_le_pow_right (by decide) (by omega)
theorem ratio_facts {T mm : Nat} {e : Int} (hT : T < infMag) (hd : decode (pack false T) = .fin false mm e) :
    0 ≤ (((ratio mm e).1 : Nat) : Int) ∧ 0 < (((ratio mm e).2 : Nat) : Int) ∧ (((ratio mm e).1 : Nat) : Int) * P2 1074 = (((ratio mm e).2 : Nat) : Int) * ((V T : Nat) : Int) ∧ intBits (((ratio mm e).1 : Nat) : Int) ≤ 2000 ∧ intBits (((ratio mm e).2 : Nat) : Int) ≤ 2000 := by
  obtain ⟨m', e', hd', hV⟩ := decode_pack false hT
  rw [hd] at hd'
  injection hd' with _ h1 h2
  subst h1 h2
  have he := decode_ge hd
  obtain ⟨hm, he2⟩ := decode_le hd
  have hs := shift_one mm e 1074 he
  have hp := shift_pos mm 1 e (by decide)
  have hn : (shift mm 1 e).1 < 2 ^ 2000 ∧ (shift mm 1 e).2 < 2 ^ 2000 := by
    unfold shift
    split
    · refine ⟨?_, Nat.one_lt_two_pow (by decide)⟩
      calc mm * 2 ^ e.toNat < 2 ^ 53 * 2 ^ e.toNat := Nat.mul_lt_mul_of_pos_right hm (Nat.two_pow_pos _)
        _ = 2 ^ (53 + e.toNat) := (Nat.pow_add ..).symm
        _ ≤ 2 ^ 2000 := Nat.pow_le_pow_right (by decide) (by omega)
    · refine ⟨Nat.lt_of_lt_of_le hm (Nat.pow_le_pow_right (by decide) (by decide)), ?_⟩
      rw [Nat.one_mul]
      exact Nat.pow_lt_pow_right (by decide) (by omega)
  have hV' : mm * 2 ^ (e + ((1074 : Nat) : Int)).toNat = V T := hV
  rw [hV'] at hs
  have er : ratio mm e = ((shift mm 1 e).1 / (shift mm 1 e).1.gcd (shift mm 1 e).2, (shift mm 1 e).2 / (shift mm 1 e).1.gcd (shift mm 1 e).2) := rfl
  rw [er]
  generalize (shift mm 1 e).1 = a at *
  generalize (shift mm 1 e).2 = b at *
  have hg : 0 < a.gcd b := Nat.gcd_pos_of_pos_right _ hp
  have ea : a / a.gcd b * a.gcd b = a := Nat.div_mul_cancel (Nat.gcd_dvd_left a b)
  have eb : b / a.gcd b * a.gcd b = b := Nat.div_mul_cancel (Nat.gcd_dvd_right a b)
  refine ⟨Int.natCast_nonneg _, ?_, ?_, bits_of_lt (Nat.lt_of_le_of_lt (Nat.div_le_self _ _) hn.1), bits_of_lt (Nat.lt_of_le_of_lt (Nat.div_le_self _ _) hn.2)⟩
  · have : 0 < b / a.gcd b := Nat.div_pos (Nat.gcd_le_right _ hp) hg
    show (0 : Int) < ((b / a.gcd b : Nat) : Int)
    exact_mod_cast this
  · show ((a / a.gcd b : Nat) : Int) * P2 1074 = ((b / a.gcd b : Nat) : Int) * ((V T : Nat) : Int)
    rw [P2_nat]
    generalize (2 : Nat) ^ 1074 = z at *
    rw [← Int.natCast_mul, ← Int.natCast_mul]
    refine congrArg _ (Nat.eq_of_mul_eq_mul_right hg ?_)
    generalize a.gcd b = g at *
    calc a / g * z * g = (a / g * g) * z := by ac_rfl
      _ = V T * b := by rw [ea, hs]
      _ = V T * (b / g * g) := by rw [eb]
      _ = b / g * V T * g := by ac_rfl

end

section
open PySem
open Float64 (V roundMag infMag isqrt isqrt_spec dist V_form V_at V_succ V_lt roundMag_right roundMag_over)

theorem or_one (a : Nat) : a ||| 1 = 2 * (a / 2) + 1 := by
  apply Nat.eq_of_testBit_eq
  intro i
  cases i with
  | zero => simp [Nat.testBit_zero, Nat.or_mod_two_eq_one]
  | succ i =>
    have e : (2 * (a / 2) + 1) / 2 = a / 2 := by omega
    rw [Nat.testBit_or, Nat.testBit_succ, Nat.testBit_succ, Nat.testBit_succ, e]
    simp

/-- the root of n / m, rounded to odd -/
def rtoN (n m : Nat) : Nat := if isqrt (n / m) * isqrt (n / m) * m = n then isqrt (n / m) else isqrt (n / m) ||| 1

theorem root_lo {n m : Nat} (hm : 0 < m) : isqrt (n / m) * isqrt (n / m) * m ≤ n := (Nat.le_div_iff_mul_le hm).mp (isqrt_spec (n / m)).1
theorem root_hi {n m : Nat} (hm : 0 < m) : n < (isqrt (n / m) + 1) * (isqrt (n / m) + 1) * m := (Nat.div_lt_iff_lt_mul hm).mp (isqrt_spec (n / m)).2
theorem sq_mono {a b : Nat} (h : a ≤ b) (m : Nat) : a * a * m ≤ b * b * m := Nat.mul_le_mul_right m (Nat.mul_le_mul h h)
theorem sq_lt {a b m : Nat} (h : a < b) (hm : 0 < m) : a * a * m < b * b * m := Nat.mul_lt_mul_of_pos_right (Nat.mul_self_lt_mul_self h) hm
theorem four (c m : Nat) : 4 * (c * c) * m = 2 * c * (2 * c) * m := by
  congr 1
  calc 4 * (c * c) = (2 * 2) * (c * c) := rfl
    _ = 2 * c * (2 * c) := by ac_rfl

theorem rto_cmp {n m : Nat} (hm : 0 < m) (c : Nat) : (rtoN n m < 2 * c ↔ n < 4 * (c * c) * m) ∧ (2 * c < rtoN n m ↔ 4 * (c * c) * m < n) := by
  have h1 := root_lo (n := n) hm
  have h2 := root_hi (n := n) hm
  rw [four]
  unfold rtoN
  generalize isqrt (n / m) = a at h1 h2 ⊢
  split
  · rename_i he
    constructor
    · constructor
      · intro h; rw [← he]; exact sq_lt h hm
      · intro h
        refine Nat.lt_of_not_le fun hn => ?_
        have := sq_mono hn m
        omega
    · constructor
      · intro h; rw [← he]; exact sq_lt h hm
      · intro h
        refine Nat.lt_of_not_le fun hn => ?_
        have := sq_mono hn m
        omega
  · rename_i he
    rw [or_one]
    rcases Nat.lt_or_ge a (2 * c) with h | h
    · have h3 := sq_mono (show a + 1 ≤ 2 * c from h) m
      omega
    · have h3 := sq_mono h m
      omega

theorem rto_ge {n m k : Nat} (hm : 0 < m) (h : k * k * m ≤ n) : k ≤ rtoN n m := by
  have h2 := root_hi (n := n) hm
  have h3 : k ≤ isqrt (n / m) := by
    refine Nat.le_of_not_lt fun hn => ?_
    have := sq_mono (show isqrt (n / m) + 1 ≤ k from hn) m
    omega
  unfold rtoN
  split
  · exact h3
  · rw [or_one]; omega
theorem rto_le (n m : Nat) : rtoN n m ≤ n + 1 := by
  have h1 : isqrt (n / m) ≤ n := Nat.le_trans (Nat.le_trans (Nat.le_mul_self _) (isqrt_spec (n / m)).1) (Nat.div_le_self _ _)
  unfold rtoN
  split
  · omega
  · rw [or_one]; omega

section
variable {n m n' m' A G D W c Z k : Nat}
theorem cmp_core (hm : 0 < m) (hm' : 0 < m') (hD : 0 < D) (hG : 0 < G) (R : n' * (m * (G * G)) = (n * Z * (D * D)) * m') (hW : D * W = 4 * G * c) (hA : A = rtoN n' m') :
    (2 * (A * G) < D * W ↔ 4 * n * Z < W * W * m) ∧ (D * W < 2 * (A * G) ↔ W * W * m < 4 * n * Z) := by
  obtain ⟨c1, c2⟩ := rto_cmp (n := n') hm' c
  rw [← hA] at c1 c2
  have eX : (4 * n * Z) * (D * D * m') = (4 * (m * (G * G))) * n' := by
    calc (4 * n * Z) * (D * D * m') = 4 * ((n * Z * (D * D)) * m') := by ac_rfl
      _ = 4 * (n' * (m * (G * G))) := by rw [R]
      _ = (4 * (m * (G * G))) * n' := by ac_rfl
  have eY : (W * W * m) * (D * D * m') = (4 * (m * (G * G))) * (4 * (c * c) * m') := by
    calc (W * W * m) * (D * D * m') = (D * W) * (D * W) * (m * m') := by ac_rfl
      _ = (4 * G * c) * (4 * G * c) * (m * m') := by rw [hW]
      _ = (4 * (m * (G * G))) * (4 * (c * c) * m') := by ac_rfl
  have pq : 0 < 4 * (m * (G * G)) := Nat.mul_pos (by decide) (Nat.mul_pos hm (Nat.mul_pos hG hG))
  have pd : 0 < D * D * m' := Nat.mul_pos (Nat.mul_pos hD hD) hm'
  have l1 : ∀ x y : Nat, 2 * (x * G) < 4 * G * y ↔ x < 2 * y := fun x y => by
    have e1 : 2 * (x * G) = (2 * G) * x := by ac_rfl
    have e2 : 4 * G * y = (2 * G) * (2 * y) := by
      calc 4 * G * y = (2 * 2) * G * y := rfl
        _ = (2 * G) * (2 * y) := by ac_rfl
    rw [e1, e2]
    exact Nat.mul_lt_mul_left (by omega)
  have l2 : ∀ x y : Nat, 4 * G * y < 2 * (x * G) ↔ 2 * y < x := fun x y => by
    have e1 : 2 * (x * G) = (2 * G) * x := by ac_rfl
    have e2 : 4 * G * y = (2 * G) * (2 * y) := by
      calc 4 * G * y = (2 * 2) * G * y := rfl
        _ = (2 * G) * (2 * y) := by ac_rfl
    rw [e1, e2]
    exact Nat.mul_lt_mul_left (by omega)
  constructor
  · rw [hW, l1, c1, ← Nat.mul_lt_mul_left pq, ← eX, ← eY]
    exact Nat.mul_lt_mul_right pd
  · rw [hW, l2, c2, ← Nat.mul_lt_mul_left pq, ← eX, ← eY]
    exact Nat.mul_lt_mul_right pd

theorem big_core (hm' : 0 < m') (hD : 0 < D) (R : n' * (m * (G * G)) = (n * Z * (D * D)) * m') (hb : k * k * m' ≤ n') (hA : A = rtoN n' m') (hW : D * W ≤ 2 * (k * G)) :
    D * W ≤ 2 * (A * G) ∧ W * W * m ≤ 4 * n * Z := by
  have hk : k ≤ A := by rw [hA]; exact rto_ge hm' hb
  refine ⟨Nat.le_trans hW (Nat.mul_le_mul_left 2 (Nat.mul_le_mul_right G hk)), ?_⟩
  have pd : 0 < D * D * m' := Nat.mul_pos (Nat.mul_pos hD hD) hm'
  refine Nat.le_of_mul_le_mul_right (c := D * D * m') ?_ pd
  calc (W * W * m) * (D * D * m') = (D * W) * (D * W) * (m * m') := by ac_rfl
    _ ≤ (2 * (k * G)) * (2 * (k * G)) * (m * m') := Nat.mul_le_mul_right _ (Nat.mul_le_mul hW hW)
    _ = (2 * 2) * (m * (G * G)) * (k * k * m') := by ac_rfl
    _ ≤ (2 * 2) * (m * (G * G)) * n' := Nat.mul_le_mul_left _ hb
    _ = 4 * (n' * (m * (G * G))) := by
      show 4 * (m * (G * G)) * n' = _
      ac_rfl
    _ = 4 * ((n * Z * (D * D)) * m') := by rw [R]
    _ = (4 * n * Z) * (D * D * m') := by ac_rfl
end

end

section
open PySem PySem.W PyProof.Rows
open Builtin.Int (intBits)
section
variable {prog : Program} {w : World} {A : Around} {E : Value → Shared → Prop} {s : Shared} {Q : Value → Shared → Prop} {a b : Int} {t u : Tok}
theorem pow_sq {k : Nat} (ha : intBits a ≤ k) (hk : k ≤ 100000) (h : Q (.int (a * a) s.toks) { s with toks := s.toks + 1 }) : wpAny (model prog w) A (binaryOp .Pow (.int a t) (.int 2 u)) Q E s := by
  have e : a ^ (2 : Int).toNat = a * a := by
    show a ^ 2 = a * a
    rw [Int.pow_succ, Int.pow_succ, Int.pow_zero, Int.one_mul]
  refine pow_int (by decide) ?_ ?_
  · omega
  · rw [e]; exact h
theorem units_div {U : Int} (he : a * P2 1074 = b * U) (hb : 0 < b) (hs : intBits b ≤ 8999) (h : Q (.int U s.toks) { s with toks := s.toks + 1 }) : wpAny (model prog w) A (binaryOp .FloorDiv (.int (a * P2 1074) t) (.int b u)) Q E s := by
  refine floordiv_bits (by omega) hs ?_
  rw [he, Int.mul_fdiv_cancel_left U (by omega)]
  exact h
end
theorem bits_0 : intBits 0 ≤ 0 := by decide
theorem bits_1 : intBits 1 ≤ 1 := by decide
theorem bits_2 : intBits 2 ≤ 2 := by decide
theorem bits_4 : intBits 4 ≤ 3 := by decide
/-- the loop of `_law_root`: step is a power of two, not too great -/
def StepInv (U x : Int) : Prop := ∃ j : Nat, x = P2 j ∧ (j = 0 ∨ P2 (j - 1) * P2 53 ≤ U)
theorem step_start (U : Int) : StepInv U 1 := ⟨0, rfl, .inl rfl⟩
theorem P2_succ (j : Nat) : P2 (j + 1) = P2 j * 2 := Int.pow_succ ..
theorem step_next {U x : Int} (h : StepInv U x) (hx : x * P2 53 ≤ U) : StepInv U (x * 2) := by
  obtain ⟨j, rfl, _⟩ := h
  exact ⟨j + 1, (P2_succ j).symm, .inr hx⟩
theorem step_pos {U x : Int} (h : StepInv U x) : 0 < x := by
  obtain ⟨j, rfl, _⟩ := h
  exact P2_pos j
theorem step_less {U x : Int} (h : StepInv U x) (hx : x * P2 53 ≤ U) : (U - x * 2).toNat < (U - x).toNat := by
  have h0 := step_pos h
  have h1 : x * 2 ≤ x * P2 53 := Int.mul_le_mul_of_nonneg_left (by decide) (Int.le_of_lt h0)
  omega
theorem step_bits {U x : Int} (h : StepInv U x) (hU : intBits U ≤ 2200) : intBits x ≤ 2300 := by
  obtain ⟨j, rfl, h⟩ := h
  rcases h with rfl | h
  · exact Nat.le_trans (P2_bits 0) (by decide)
  · refine Nat.le_trans (P2_bits j) ?_
    have h1 := intBits_le_iff.mp hU
    have h2 : P2 (j - 1) * 1 ≤ P2 (j - 1) * P2 53 := Int.mul_le_mul_of_nonneg_left (by decide) (Int.le_of_lt (P2_pos _))
    have h3 : 2 ^ (j - 1) < 2 ^ 2200 := by
      rw [P2_nat] at h2
      rw [P2_nat] at h
      generalize ((2 ^ (j - 1) : Nat) : Int) * P2 53 = z at h h2
      generalize (2 : Nat) ^ 2200 = y at *
      omega
    have h4 := (Nat.pow_lt_pow_iff_right (by decide : 1 < 2)).mp h3
    omega

end

section
open PySem
open Float64 (V roundMag infMag isqrt isqrt_spec dist V_form V_at V_succ V_lt roundMag_right roundMag_over)

/-- how the program scales n / m: N over 2 ** d is A * 2 ** g in units of 2 ** -1074 -/
structure Scl (n m n' m' g d A N : Nat) : Prop where
  hm : 0 < m
  hm' : 0 < m'
  R : n' * (m * (2 ^ g * 2 ^ g)) = (n * 2 ^ 2148 * (2 ^ d * 2 ^ d)) * m'
  hA : A = rtoN n' m'
  hX : N * 2 ^ 1074 = A * 2 ^ g
  hb : 2 ^ 54 * 2 ^ 54 * m' ≤ n'

section
variable {n m n' m' g d A N T k q : Nat}

theorem lat {g d k : Nat} (o : Nat) (h : g + 2 ≤ d + k) : 2 ^ d * (o * 2 ^ k) = 4 * 2 ^ g * (o * 2 ^ (d + k - g - 2)) := by
  have e : (2 : Nat) ^ d * 2 ^ k = 4 * 2 ^ g * 2 ^ (d + k - g - 2) := by
    rw [← Nat.pow_add, show (4 : Nat) = 2 ^ 2 from rfl, ← Nat.pow_add, ← Nat.pow_add]
    congr 1
    omega
  calc 2 ^ d * (o * 2 ^ k) = o * (2 ^ d * 2 ^ k) := by ac_rfl
    _ = o * (4 * 2 ^ g * 2 ^ (d + k - g - 2)) := by rw [e]
    _ = 4 * 2 ^ g * (o * 2 ^ (d + k - g - 2)) := by ac_rfl

theorem Scl.ge (S : Scl n m n' m' g d A N) : 2 ^ 54 ≤ A := by rw [S.hA]; exact rto_ge S.hm' S.hb

theorem Scl.cmp (S : Scl n m n' m' g d A N) (o : Nat) (h : g + 2 ≤ d + k) :
    (2 * (N * 2 ^ 1074) < 2 ^ d * (o * 2 ^ k) ↔ 4 * n * 2 ^ 2148 < o * 2 ^ k * (o * 2 ^ k) * m) ∧ (2 ^ d * (o * 2 ^ k) < 2 * (N * 2 ^ 1074) ↔ o * 2 ^ k * (o * 2 ^ k) * m < 4 * n * 2 ^ 2148) := by
  rw [S.hX]
  exact cmp_core S.hm S.hm' (Nat.two_pow_pos d) (Nat.two_pow_pos g) S.R (lat o h) S.hA

theorem Scl.big (S : Scl n m n' m' g d A N) {o : Nat} (ho : o ≤ 2 ^ 54) (h : d + k ≤ g + 1) :
    2 ^ d * (o * 2 ^ k) ≤ 2 * (N * 2 ^ 1074) ∧ o * 2 ^ k * (o * 2 ^ k) * m ≤ 4 * n * 2 ^ 2148 := by
  rw [S.hX]
  refine big_core S.hm' (Nat.two_pow_pos d) S.R S.hb S.hA ?_
  calc 2 ^ d * (o * 2 ^ k) = o * 2 ^ (d + k) := by rw [Nat.pow_add]; ac_rfl
    _ ≤ 2 ^ 54 * 2 ^ (g + 1) := Nat.mul_le_mul ho (Nat.pow_le_pow_right (by decide) h)
    _ = 2 * (2 ^ 54 * 2 ^ g) := by rw [show (2 : Nat) ^ (g + 1) = 2 ^ g * 2 from Nat.pow_succ ..]; generalize (2 : Nat) ^ 54 = z; ac_rfl

theorem Scl.over (S : Scl n m n' m' g d A N) : roundMag N (2 ^ d) = infMag ↔ (2 ^ 54 - 1) * 2 ^ 2045 * ((2 ^ 54 - 1) * 2 ^ 2045) * m ≤ 4 * n * 2 ^ 2148 := by
  rw [roundMag_over (Nat.two_pow_pos d)]
  by_cases h : g + 2 ≤ d + 2045
  · have c := (S.cmp (2 ^ 54 - 1) h).1
    rw [← Nat.not_lt, ← Nat.not_lt, c]
  · have c := S.big (o := 2 ^ 54 - 1) (Nat.sub_le _ _) (show d + 2045 ≤ g + 1 by omega)
    exact ⟨fun _ => c.2, fun _ => c.1⟩

/-- the nearest: of the two midpoints -/
theorem near_up (hov : roundMag N (2 ^ d) < infMag) :
    2 * (N * 2 ^ 1074) ≤ 2 ^ d * (V (roundMag N (2 ^ d)) + V (roundMag N (2 ^ d) + 1)) ∧ (2 * (N * 2 ^ 1074) = 2 ^ d * (V (roundMag N (2 ^ d)) + V (roundMag N (2 ^ d) + 1)) → roundMag N (2 ^ d) % 2 = 0) := by
  obtain ⟨h1, h2⟩ := roundMag_right (Nat.two_pow_pos d) hov (roundMag N (2 ^ d) + 1)
  have h3 := V_succ (roundMag N (2 ^ d))
  have h4 : 2 ^ d * V (roundMag N (2 ^ d)) < 2 ^ d * V (roundMag N (2 ^ d) + 1) := Nat.mul_lt_mul_of_pos_left h3 (Nat.two_pow_pos d)
  rw [Nat.mul_add]
  unfold dist at h1 h2
  generalize N * 2 ^ 1074 = X at *
  generalize 2 ^ d * V (roundMag N (2 ^ d)) = a at *
  generalize 2 ^ d * V (roundMag N (2 ^ d) + 1) = b at *
  refine ⟨by omega, fun he => h2 (Nat.ne_of_gt h3) (by omega)⟩
theorem near_down (hov : roundMag N (2 ^ d) < infMag) (hT : 0 < roundMag N (2 ^ d)) :
    2 ^ d * (V (roundMag N (2 ^ d) - 1) + V (roundMag N (2 ^ d))) ≤ 2 * (N * 2 ^ 1074) ∧ (2 ^ d * (V (roundMag N (2 ^ d) - 1) + V (roundMag N (2 ^ d))) = 2 * (N * 2 ^ 1074) → roundMag N (2 ^ d) % 2 = 0) := by
  obtain ⟨h1, h2⟩ := roundMag_right (Nat.two_pow_pos d) hov (roundMag N (2 ^ d) - 1)
  have h3 := V_lt (show roundMag N (2 ^ d) - 1 < roundMag N (2 ^ d) by omega)
  have h4 : 2 ^ d * V (roundMag N (2 ^ d) - 1) < 2 ^ d * V (roundMag N (2 ^ d)) := Nat.mul_lt_mul_of_pos_left h3 (Nat.two_pow_pos d)
  rw [Nat.mul_add]
  unfold dist at h1 h2
  generalize N * 2 ^ 1074 = X at *
  generalize 2 ^ d * V (roundMag N (2 ^ d)) = a at *
  generalize 2 ^ d * V (roundMag N (2 ^ d) - 1) = b at *
  refine ⟨by omega, fun he => h2 (Nat.ne_of_lt h3) (by omega)⟩

/-- what `_law_root` asks: the squares of the midpoints, told by the float's own number T = k * 2 ** 52 + q -/
structure Near (n m T k q : Nat) : Prop where
  form : T = k * 2 ^ 52 + q
  hq : q < 2 ^ 53
  hk : 2 ^ 52 ≤ q ∨ k = 0
  val : V T = q * 2 ^ k
  up : 4 * n * 2 ^ 2148 ≤ (2 * q + 1) * 2 ^ k * ((2 * q + 1) * 2 ^ k) * m
  upS : T % 2 = 1 → 4 * n * 2 ^ 2148 < (2 * q + 1) * 2 ^ k * ((2 * q + 1) * 2 ^ k) * m
  down : (2 ^ 52 < q ∨ (k = 0 ∧ 0 < q)) → (2 * q - 1) * 2 ^ k * ((2 * q - 1) * 2 ^ k) * m ≤ 4 * n * 2 ^ 2148
  downS : (2 ^ 52 < q ∨ (k = 0 ∧ 0 < q)) → T % 2 = 1 → (2 * q - 1) * 2 ^ k * ((2 * q - 1) * 2 ^ k) * m < 4 * n * 2 ^ 2148
  downB : q = 2 ^ 52 → 0 < k → (2 ^ 54 - 1) * 2 ^ (k - 1) * ((2 ^ 54 - 1) * 2 ^ (k - 1)) * m ≤ 4 * n * 2 ^ 2148

theorem Scl.near (S : Scl n m n' m' g d A N) (hov : roundMag N (2 ^ d) < infMag) : ∃ k q, Near n m (roundMag N (2 ^ d)) k q := by
  obtain ⟨k, q, hf, hq, hk, hV⟩ := V_form (roundMag N (2 ^ d))
  have hge := S.ge
  obtain ⟨u1, u2⟩ := near_up hov
  have dn := near_down hov
  generalize hTe : roundMag N (2 ^ d) = T at *
  have hV1 : V (T + 1) = (q + 1) * 2 ^ k := by
    rw [hf, show k * 2 ^ 52 + q + 1 = k * 2 ^ 52 + (q + 1) from Nat.add_assoc ..]
    exact V_at (by omega) (by omega)
  have eU : V T + V (T + 1) = (2 * q + 1) * 2 ^ k := by
    rw [hV, hV1, ← Nat.add_mul]; congr 1; omega
  rw [eU] at u1 u2
  -- the lattice is fine enough
  have hfine : g + 2 ≤ d + k := by
    have h1 : 2 * (2 ^ 54 * 2 ^ g) ≤ 2 * (N * 2 ^ 1074) := by rw [S.hX]; exact Nat.mul_le_mul_left 2 (Nat.mul_le_mul_right _ hge)
    have h2 : 2 ^ d * ((2 * q + 1) * 2 ^ k) < 2 ^ d * (2 ^ 54 * 2 ^ k) := Nat.mul_lt_mul_of_pos_left (Nat.mul_lt_mul_of_pos_right (by omega) (Nat.two_pow_pos k)) (Nat.two_pow_pos d)
    have h3 : 2 ^ 54 * 2 ^ (g + 1) < 2 ^ 54 * 2 ^ (d + k) := by
      calc 2 ^ 54 * 2 ^ (g + 1) = 2 * (2 ^ 54 * 2 ^ g) := by rw [show (2 : Nat) ^ (g + 1) = 2 ^ g * 2 from Nat.pow_succ ..]; generalize (2 : Nat) ^ 54 = z; ac_rfl
        _ < 2 ^ d * (2 ^ 54 * 2 ^ k) := Nat.lt_of_le_of_lt (Nat.le_trans h1 u1) h2
        _ = 2 ^ 54 * 2 ^ (d + k) := by rw [show (2 : Nat) ^ (d + k) = 2 ^ d * 2 ^ k from Nat.pow_add ..]; generalize (2 : Nat) ^ 54 = z; ac_rfl
    have h4 : 2 ^ (g + 1) < 2 ^ (d + k) := Nat.lt_of_mul_lt_mul_left h3
    have h5 := (Nat.pow_lt_pow_iff_right (by decide : 1 < 2)).mp h4
    omega
  have cu := (S.cmp (2 * q + 1) hfine)
  have par : T % 2 = q % 2 := by omega
  have dnA : (2 ^ 52 < q ∨ (k = 0 ∧ 0 < q)) → 2 ^ d * ((2 * q - 1) * 2 ^ k) ≤ 2 * (N * 2 ^ 1074) ∧ (2 ^ d * ((2 * q - 1) * 2 ^ k) = 2 * (N * 2 ^ 1074) → T % 2 = 0) := fun h => by
    have hT : 0 < T := by omega
    have eD : V (T - 1) = (q - 1) * 2 ^ k := by
      rw [hf, show k * 2 ^ 52 + q - 1 = k * 2 ^ 52 + (q - 1) by omega]
      exact V_at (by omega) (by omega)
    have e : V (T - 1) + V T = (2 * q - 1) * 2 ^ k := by
      rw [eD, hV, ← Nat.add_mul]; congr 1; omega
    have := dn hT
    rw [e] at this
    exact this
  have cd := (S.cmp (2 * q - 1) hfine)
  refine ⟨k, q, hf, hq, hk, hV, ?_, ?_, ?_, ?_, ?_⟩
  · exact Nat.not_lt.mp fun h => absurd (cu.2.mpr h) (Nat.not_lt.mpr u1)
  · intro hp
    refine cu.1.mp ?_
    rcases Nat.lt_or_eq_of_le u1 with h | h
    · exact h
    · have := u2 h; omega
  · intro h
    exact Nat.not_lt.mp fun h' => absurd (cd.1.mpr h') (Nat.not_lt.mpr (dnA h).1)
  · intro h hp
    refine cd.2.mp ?_
    rcases Nat.lt_or_eq_of_le (dnA h).1 with h' | h'
    · exact h'
    · have := (dnA h).2 h'; omega
  · intro hq2 hk0
    by_cases hb : g + 2 ≤ d + (k - 1)
    · have cb := S.cmp (2 ^ 54 - 1) hb
      have hT : 0 < T := by omega
      have eD : V (T - 1) = (2 ^ 53 - 1) * 2 ^ (k - 1) := by
        rw [hf, hq2, show k * 2 ^ 52 + 2 ^ 52 - 1 = (k - 1) * 2 ^ 52 + (2 ^ 53 - 1) by omega]
        exact V_at (by decide) (.inl (by decide))
      have eT : V T = 2 ^ 53 * 2 ^ (k - 1) := by
        rw [hV, hq2, ← Nat.pow_add, ← Nat.pow_add]; congr 1; omega
      have e : V (T - 1) + V T = (2 ^ 54 - 1) * 2 ^ (k - 1) := by
        rw [eD, eT, ← Nat.add_mul]
      have := (dn hT).1
      rw [e] at this
      exact Nat.not_lt.mp fun h' => absurd (cb.1.mpr h') (Nat.not_lt.mpr this)
    · exact (S.big (o := 2 ^ 54 - 1) (Nat.sub_le _ _) (show d + (k - 1) ≤ g + 1 by omega)).2
end

end

section
open PySem
open Builtin.Int (intBits)
open Float64 (V infMag)

def RootP (n m : Int) (T : Nat) : Prop := ∃ k q, Near n.toNat m.toNat T k q

theorem P2_mono {j k : Nat} (h : j ≤ k) : P2 j ≤ P2 k := by
  rw [P2_nat, P2_nat]; exact_mod_cast Nat.pow_le_pow_right (by decide) h
theorem P2_add (j k : Nat) : P2 (j + k) = P2 j * P2 k := Int.pow_add ..

section
variable {n m U x : Int} {T k q nn mm : Nat}
theorem U_is (S : Near nn mm T k q) (hU : ((V T : Nat) : Int) = U) : U = (q : Int) * P2 k := by
  rw [← hU, S.val, P2_nat]; push_cast; rfl
theorem step_is (S : Near nn mm T k q) (hU : ((V T : Nat) : Int) = U) (hs : StepInv U x) (hlt : ¬ x * P2 53 ≤ U) : x = P2 k := by
  have hu := U_is S hU
  obtain ⟨j, rfl, hj⟩ := hs
  have hq := S.hq
  have hk := S.hk
  have pk := P2_pos k
  rcases Nat.lt_trichotomy j k with h | h | h
  · exfalso
    have h1 : P2 j * 2 ≤ P2 k := by rw [← P2_succ]; exact P2_mono h
    have h2 : (2 : Int) ^ 52 * P2 k ≤ q * P2 k := Int.mul_le_mul_of_nonneg_right (by omega) (Int.le_of_lt pk)
    have e : P2 j * P2 53 = P2 j * 2 * 2 ^ 52 := by
      have : P2 53 = 2 * 2 ^ 52 := by decide
      rw [this, Int.mul_assoc]
    rw [e] at hlt
    rw [← hu] at h2
    generalize P2 j * 2 = z at *
    generalize P2 k = y at *
    omega
  · rw [h]
  · exfalso
    rcases hj with hj | hj
    · omega
    have h1 : P2 k ≤ P2 (j - 1) := P2_mono (by omega)
    have h2 : (q : Int) * P2 k < P2 53 * P2 k := Int.mul_lt_mul_of_pos_right (by have : P2 53 = 2 ^ 53 := rfl; rw [this]; omega) pk
    have h3 : P2 k * P2 53 ≤ P2 (j - 1) * P2 53 := Int.mul_le_mul_of_nonneg_right h1 (Int.le_of_lt (P2_pos 53))
    rw [Int.mul_comm (P2 53)] at h2
    rw [← hu] at h2
    omega
theorem sq_is (hn : 0 < n) : 4 * n * P2 2148 = ((4 * n.toNat * 2 ^ 2148 : Nat) : Int) := by
  have e : n = (n.toNat : Int) := by omega
  rw [P2_nat]
  generalize (2 : Nat) ^ 2148 = z
  rw [Int.natCast_mul, Int.natCast_mul, ← e]
  rfl
theorem mid_is {o : Nat} (hm : 0 < m) : (o : Int) * P2 k * (o * P2 k) * m = ((o * 2 ^ k * (o * 2 ^ k) * m.toNat : Nat) : Int) := by
  have e : m = (m.toNat : Int) := by omega
  rw [P2_nat]
  generalize (2 : Nat) ^ k = z
  rw [Int.natCast_mul, Int.natCast_mul, Int.natCast_mul, ← e]
theorem up_is (S : Near nn mm T k q) (hU : ((V T : Nat) : Int) = U) : 2 * U + P2 k = ((2 * q + 1 : Nat) : Int) * P2 k := by
  rw [U_is S hU, Int.natCast_add, Int.add_mul, Int.natCast_mul]
  rw [Int.mul_assoc]; simp
theorem par_is (S : Near nn mm T k q) (hU : ((V T : Nat) : Int) = U) (h : (U.fdiv (P2 k)).fmod 2 ≠ 0) : T % 2 = 1 := by
  have pk := P2_pos k
  rw [U_is S hU, Int.mul_fdiv_cancel _ (by omega)] at h
  have hf := S.form
  rw [Int.fmod_eq_emod_of_nonneg _ (by decide)] at h
  omega

theorem fin_above0 (hR : RootP n m T) (hn : 0 < n) (hm : 0 < m) (hU : ((V T : Nat) : Int) = U) (hs : StepInv U x) (hlt : ¬ x * P2 53 ≤ U) :
    4 * n * P2 2148 ≤ (2 * U + x) * (2 * U + x) * m := by
  obtain ⟨k, q, S⟩ := hR
  rw [step_is S hU hs hlt, up_is S hU, mid_is hm, sq_is hn]
  exact_mod_cast S.up
theorem fin_above1 (hR : RootP n m T) (hn : 0 < n) (hm : 0 < m) (hU : ((V T : Nat) : Int) = U) (hs : StepInv U x) (hlt : ¬ x * P2 53 ≤ U) (hp : (U.fdiv x).fmod 2 ≠ 0) :
    4 * n * P2 2148 < (2 * U + x) * (2 * U + x) * m := by
  obtain ⟨k, q, S⟩ := hR
  rw [step_is S hU hs hlt] at hp ⊢
  rw [up_is S hU, mid_is hm, sq_is hn]
  exact_mod_cast S.upS (par_is S hU hp)

/-- the lower midpoint, as the text reckons it -/
theorem low_is {y : Int} (h : 0 < y) : (if y > 0 then y else 0) = y := if_pos h
theorem edge_is (S : Near nn mm T k q) (hU : ((V T : Nat) : Int) = U) : U = P2 k * P2 52 ↔ q = 2 ^ 52 := by
  rw [U_is S hU, Int.mul_comm]
  have pk := P2_pos k
  constructor
  · intro h
    have := Int.eq_of_mul_eq_mul_left (by omega) h
    have e : P2 52 = 2 ^ 52 := rfl
    rw [e] at this
    omega
  · rintro rfl
    rfl
theorem one_is : 1 < P2 k ↔ 0 < k := by
  constructor
  · intro h
    rcases Nat.eq_zero_or_pos k with rfl | h'
    · exact absurd h (by decide)
    · exact h'
  · intro h
    have := P2_mono (show 1 ≤ k from h)
    have e : P2 1 = 2 := rfl
    omega
theorem downB_is (S : Near nn mm T k q) (hU : ((V T : Nat) : Int) = U) (hq : q = 2 ^ 52) (hk : 0 < k) : 2 * U - (P2 k).fdiv 2 = ((2 ^ 54 - 1 : Nat) : Int) * P2 (k - 1) := by
  have e : P2 k = P2 (k - 1) * 2 := by rw [← P2_succ]; congr 1; omega
  have ed : (P2 k).fdiv 2 = P2 (k - 1) := by rw [e]; exact Int.mul_fdiv_cancel _ (by decide)
  rw [ed, U_is S hU, hq, e]
  generalize P2 (k - 1) = z
  omega
theorem down_is (S : Near nn mm T k q) (hU : ((V T : Nat) : Int) = U) (hq : 0 < q) : 2 * U - P2 k = ((2 * q - 1 : Nat) : Int) * P2 k := by
  rw [U_is S hU]
  have e : ((2 * q - 1 : Nat) : Int) = 2 * (q : Int) - 1 := by omega
  rw [e, Int.sub_mul, Int.one_mul, Int.mul_assoc]

theorem fin_edge0 (hR : RootP n m T) (hn : 0 < n) (hm : 0 < m) (hU : ((V T : Nat) : Int) = U) (hs : StepInv U x) (hlt : ¬ x * P2 53 ≤ U) (hq : U = x * P2 52) (hx : 1 < x) :
    ((if 2 * U - x.fdiv 2 > 0 then 2 * U - x.fdiv 2 else 0) * if 2 * U - x.fdiv 2 > 0 then 2 * U - x.fdiv 2 else 0) * m ≤ 4 * n * P2 2148 := by
  obtain ⟨k, q, S⟩ := hR
  rw [step_is S hU hs hlt] at hq hx ⊢
  have hq' := (edge_is S hU).mp hq
  have hk' := one_is.mp hx
  have hpos : 0 < ((2 ^ 54 - 1 : Nat) : Int) * P2 (k - 1) := Int.mul_pos (by decide) (P2_pos _)
  rw [downB_is S hU hq' hk', low_is hpos, mid_is hm, sq_is hn]
  exact_mod_cast S.downB hq' hk'
theorem fin_edge1 {P : Prop} (hR : RootP n m T) (hU : ((V T : Nat) : Int) = U) (hs : StepInv U x) (hlt : ¬ x * P2 53 ≤ U) (hq : U = x * P2 52) (hp : (U.fdiv x).fmod 2 ≠ 0) : P := by
  obtain ⟨k, q, S⟩ := hR
  rw [step_is S hU hs hlt] at hq hp
  have hq' := (edge_is S hU).mp hq
  have hp' := par_is S hU hp
  have hf := S.form
  omega
theorem inner_of (S : Near nn mm T k q) (hU : ((V T : Nat) : Int) = U) (h : ¬ (U = P2 k * P2 52 ∧ 1 < P2 k)) (hq : 0 < q) : 2 ^ 52 < q ∨ (k = 0 ∧ 0 < q) := by
  rw [edge_is S hU, one_is] at h
  have := S.hk
  omega
theorem fin_below0 (hR : RootP n m T) (hn : 0 < n) (hm : 0 < m) (hU : ((V T : Nat) : Int) = U) (hs : StepInv U x) (hlt : ¬ x * P2 53 ≤ U) (h : ¬ (U = x * P2 52 ∧ 1 < x)) :
    ((if 2 * U - x > 0 then 2 * U - x else 0) * if 2 * U - x > 0 then 2 * U - x else 0) * m ≤ 4 * n * P2 2148 := by
  obtain ⟨k, q, S⟩ := hR
  rw [step_is S hU hs hlt] at h ⊢
  rcases Nat.eq_zero_or_pos q with hq | hq
  · have e : U = 0 := by rw [U_is S hU, hq]; exact Int.zero_mul _
    have pk := P2_pos k
    rw [e, if_neg (by omega), Int.zero_mul, Int.zero_mul]
    exact Int.le_of_lt (Int.mul_pos (Int.mul_pos (by decide) hn) (P2_pos _))
  · have hpos : 0 < ((2 * q - 1 : Nat) : Int) * P2 k := Int.mul_pos (by omega) (P2_pos _)
    rw [down_is S hU hq, low_is hpos, mid_is hm, sq_is hn]
    exact_mod_cast S.down (inner_of S hU h hq)
theorem fin_below1 (hR : RootP n m T) (hn : 0 < n) (hm : 0 < m) (hU : ((V T : Nat) : Int) = U) (hs : StepInv U x) (hlt : ¬ x * P2 53 ≤ U) (h : ¬ (U = x * P2 52 ∧ 1 < x)) (hp : (U.fdiv x).fmod 2 ≠ 0) :
    ((if 2 * U - x > 0 then 2 * U - x else 0) * if 2 * U - x > 0 then 2 * U - x else 0) * m < 4 * n * P2 2148 := by
  obtain ⟨k, q, S⟩ := hR
  rw [step_is S hU hs hlt] at h hp ⊢
  have hp' := par_is S hU hp
  rcases Nat.eq_zero_or_pos q with hq | hq
  · have hf := S.form
    omega
  · have hpos : 0 < ((2 * q - 1 : Nat) : Int) * P2 k := Int.mul_pos (by omega) (P2_pos _)
    rw [down_is S hU hq, low_is hpos, mid_is hm, sq_is hn]
    exact_mod_cast S.downS (inner_of S hU h hq) hp'
end

end

section
open PySem PySem.W PyProof.Rows PySem.Spec PySem.Calls
open Builtin.Int (intBits)
open Float64 (V decode pack infMag ratio shift)

local macro_rules | `(tactic| walk_at "my_bits") => `(tactic| first | assumption | with_reducible exact P2_bits _ | with_reducible exact bits_0 | with_reducible exact bits_1 | with_reducible exact bits_2 | with_reducible exact bits_4 | exact step_bits (by assumption) (by assumption) | (refine' intBits_mul_le ?ba ?bb; (case ba => walk_at "my_bits"); (case bb => walk_at "my_bits")) | (refine' intBits_add_le ?ba ?bb; (case ba => walk_at "my_bits"); (case bb => walk_at "my_bits")) | (refine' intBits_sub_le ?ba ?bb; (case ba => walk_at "my_bits"); (case bb => walk_at "my_bits")) | (refine' @intBits_ite_le _ _ _ _ _ _ ?ba ?bb; (case ba => walk_at "my_bits"); (case bb => walk_at "my_bits")) | (refine' intBits_fdiv_le ?ba; (case ba => walk_at "my_bits")))
local macro_rules | `(tactic| walk_at "binaryOp Pow int int") => `(tactic| first
  | ((with_reducible show wpAny _ _ (binaryOp _ (Value.int 2 _) (Value.int 1074 _)) _ _ _); refine pow2_k (k := 1074) rfl (by decide) ?_)
  | ((with_reducible show wpAny _ _ (binaryOp _ (Value.int 2 _) (Value.int 53 _)) _ _ _); refine pow2_k (k := 53) rfl (by decide) ?_)
  | ((with_reducible show wpAny _ _ (binaryOp _ (Value.int 2 _) (Value.int 52 _)) _ _ _); refine pow2_k (k := 52) rfl (by decide) ?_)
  | ((with_reducible show wpAny _ _ (binaryOp _ (Value.int 2 _) (Value.int 2148 _)) _ _ _); refine pow2_k (k := 2148) rfl (by decide) ?_)
  | ((with_reducible show wpAny _ _ (binaryOp _ (Value.int _ _) (Value.int 2 _)) _ _ _); (refine' pow_sq ?ha ?hb ?_); (case ha => walk_at "my_bits"); (case hb => decide)))
set_option maxRecDepth 100000 in
set_option maxHeartbeats 2000000 in
theorem root_c (w : World) (mean : ExcName → Option Value) (mg mb : Str → Option Value) (T : Nat) (t0 : Tok) (n : Int) (t : Tok) (m : Int) (u : Tok) :
    Hands 5 w mean mg mb 63 (T < infMag ∧ RootP n m T ∧ 0 < n ∧ 0 < m ∧ intBits n ≤ 4000 ∧ intBits m ≤ 4000) [.float (pack false T) t0, .int n t, .int m u] (fun _ => .bool true) := by
  k_with_none
  unfold Hands ProgX LooseX
  k_fill
  intro news dp un gd cn cs a ccd cl outer A₀ base h₀ L m' s Q E B F X N T0 hk hpre hd hu hret
  obtain ⟨hT, hR, hn0, hm0, hnb, hmb⟩ := hpre
  obtain ⟨mm, e, hdec, hV⟩ := Float64.decode_pack false hT
  obtain ⟨ht0, hl0, htl, htb, hlb⟩ := ratio_facts hT hdec
  have hub := V_bits hT
  have hu0 : (0 : Int) ≤ ((V T : Nat) : Int) := Int.natCast_nonneg _
  generalize hx9 : pack false T = x9 at *
  generalize hU9 : ((V T : Nat) : Int) = U9 at *
  generalize htp : (((ratio mm e).1 : Nat) : Int) = top9 at *
  generalize hlw : (((ratio mm e).2 : Nat) : Int) = low9 at *
  k_with "getMethod float" => (refine getMethod_ratio ?_)
  k_with "call builtin:float.as_integer_ratio" => (k_dflt (refine' call_ratio hdec ?F ?N ?_; (case F => k_asm); (case N => k_asm)); rw [htp, hlw]; intro D' h' t' u' tk' F' N' l1; (try k_lt l1); (try k_sweep))
  k_with "binaryOp Mult int int" => ((refine' mul_bits ?ha ?hb ?hab ?_); (case ha => walk_at "my_bits"); (case hb => walk_at "my_bits"); (case hab => decide))
  k_with "binaryOp FloorDiv int int" => first
    | ((with_reducible show wpAny _ _ (binaryOp _ (Value.int (_ * P2 1074) _) (Value.int _ _)) _ _ _); (refine units_div htl hl0 (by omega) ?_))
    | ((with_reducible show wpAny _ _ (binaryOp _ (Value.int U9 _) (Value.int _ _)) _ _ _); (refine floordiv_bits (Int.ne_of_gt (step_pos (by assumption))) (Nat.le_trans (step_bits (by assumption) (by assumption)) (by decide)) ?_))
  k_with "exec While Compare cons nil" => k_while (fun _ step => StepInv U9 step) (fun _ step => (U9 - step).toNat) "step"
  k_with "state" => first | exact step_start _ | exact step_next (by assumption) (by assumption)
  k_with "measure" => exact step_less (by assumption) (by assumption)
  w_strict (
    refine wpAny_call ?_
    k_dflt cell_enter
    k_steps
    all_goals (
      refine' cb_retB (Q := Q) (s := s) hret (decide_eq_true ?e1) ?e2 ?e3
      (case e2 => k_asm)
      (case e3 => first | k_asm | (refine' cb_drop ?cbN ?cbS; (case cbN => assumption); (case cbS => kcj_all)))
      (case e1 => with_reducible first
        | exact fin_above0 hR hn0 hm0 hU9 (by assumption) (by assumption)
        | exact fin_above1 hR hn0 hm0 hU9 (by assumption) (by assumption) (by assumption)
        | exact fin_edge0 hR hn0 hm0 hU9 (by assumption) (by assumption) (by assumption) (by assumption)
        | exact fin_edge1 hR hU9 (by assumption) (by assumption) (by assumption) (by assumption)
        | exact fin_below0 hR hn0 hm0 hU9 (by assumption) (by assumption) (fun h => absurd h.1 (by assumption))
        | exact fin_below0 hR hn0 hm0 hU9 (by assumption) (by assumption) (fun h => absurd h.2 (by assumption))
        | exact fin_below1 hR hn0 hm0 hU9 (by assumption) (by assumption) (fun h => absurd h.1 (by assumption)) (by assumption)
        | exact fin_below1 hR hn0 hm0 hU9 (by assumption) (by assumption) (fun h => absurd h.2 (by assumption)) (by assumption))))

end

section
open PySem PySem.W PyProof.Rows
open Builtin.Int (intBits)
open Float64 (V infMag roundMag pack isqrt)

theorem bitOr_nat (a b : Nat) : Builtin.bitOr (a : Int) (b : Int) = ((a ||| b : Nat) : Int) := by
  have e : ∀ z : Int, Builtin.bitNot (Builtin.bitNot z) = z := fun z => by unfold Builtin.bitNot; omega
  have n1 : ∀ z : Nat, decide (0 ≤ Builtin.bitNot (z : Int)) = false := fun z => decide_eq_false (by unfold Builtin.bitNot; omega)
  unfold Builtin.bitOr Builtin.bitAnd
  rw [n1, n1]
  show Builtin.bitNot (Builtin.bitNot _) = _
  rw [e, e, e]
  rfl
theorem rto_is {n m : Int} (hn : 0 ≤ n) (hm : 0 < m) : rtoZ n m = ((rtoN n.toNat m.toNat : Nat) : Int) := by
  have ed : (n.fdiv m).toNat = n.toNat / m.toNat := by
    rw [Int.fdiv_eq_ediv_of_nonneg _ (Int.le_of_lt hm)]
    obtain ⟨n', rfl⟩ := Int.eq_ofNat_of_zero_le hn
    obtain ⟨m', rfl⟩ := Int.eq_ofNat_of_zero_le (Int.le_of_lt hm)
    rw [← Int.natCast_ediv]
    simp only [Int.toNat_natCast]
  unfold rtoZ rtoN
  rw [ed]
  generalize isqrt (n.toNat / m.toNat) = a
  have ee : (((a : Int) * a * m != n) = true) ↔ ¬ (a * a * m.toNat = n.toNat) := by
    rw [bne_iff_ne, ne_eq]
    obtain ⟨n', rfl⟩ := Int.eq_ofNat_of_zero_le hn
    obtain ⟨m', rfl⟩ := Int.eq_ofNat_of_zero_le (Int.le_of_lt hm)
    simp only [Int.toNat_natCast]
    rw [← Int.natCast_mul, ← Int.natCast_mul]
    constructor
    · intro h h'
      exact h (congrArg _ h')
    · intro h h'
      exact h (by exact_mod_cast h')
  by_cases h : a * a * m.toNat = n.toNat
  · rw [if_pos h, if_neg (fun q => (ee.mp q) h)]
    have := bitOr_nat a 0
    rw [Nat.or_zero] at this
    exact this
  · rw [if_neg h, if_pos (ee.mpr h)]
    exact bitOr_nat a 1
theorem rtoZ_bits {n m : Int} {k : Nat} (hn : 0 ≤ n) (hm : 0 < m) (h : intBits n ≤ k) : intBits (rtoZ n m) ≤ k + 1 := by
  rw [rto_is hn hm]
  have h1 := intBits_le_iff.mp h
  have h2 := rto_le n.toNat m.toNat
  refine intBits_le_iff.mpr ?_
  rw [Nat.pow_succ]
  have h3 := Nat.two_pow_pos k
  generalize rtoN n.toNat m.toNat = r at *
  generalize (2 : Nat) ^ k = z at *
  omega

theorem bits_ge {n : Int} (hn : 0 < n) : 2 ^ (intBits n - 1) ≤ n.toNat := by
  have h : ¬ intBits n ≤ intBits n - 1 := by
    have : intBits n ≠ 0 := fun h0 => by
      have := intBits_le_iff.mp (Nat.le_of_eq h0)
      omega
    omega
  rw [intBits_le_iff] at h
  have e : n.natAbs = n.toNat := by omega
  rw [e] at h
  exact Nat.not_lt.mp h
theorem bits_lt {m : Int} (hm : 0 < m) : m.toNat < 2 ^ intBits m := by
  have h := intBits_le_iff.mp (Nat.le_refl (intBits m))
  have e : m.natAbs = m.toNat := by omega
  rw [e] at h
  exact h
theorem fits {n m : Int} {i j : Nat} (hn : 0 < n) (hm : 0 < m) (h : 109 + intBits m + i ≤ intBits n + j) : 2 ^ 54 * 2 ^ 54 * (m.toNat * 2 ^ i) ≤ n.toNat * 2 ^ j := by
  have h1 := bits_ge hn
  have h2 := bits_lt hm
  have hb : intBits n ≠ 0 := fun h0 => by
    have := intBits_le_iff.mp (Nat.le_of_eq h0)
    omega
  calc 2 ^ 54 * 2 ^ 54 * (m.toNat * 2 ^ i) ≤ 2 ^ 54 * 2 ^ 54 * (2 ^ intBits m * 2 ^ i) := Nat.mul_le_mul_left _ (Nat.mul_le_mul_right _ (Nat.le_of_lt h2))
    _ = 2 ^ (108 + (intBits m + i)) := by rw [Nat.pow_add 2 108, Nat.pow_add 2 (intBits m)]
    _ ≤ 2 ^ ((intBits n - 1) + j) := Nat.pow_le_pow_right (by decide) (by omega)
    _ = 2 ^ (intBits n - 1) * 2 ^ j := Nat.pow_add ..
    _ ≤ n.toNat * 2 ^ j := Nat.mul_le_mul_right _ h1

theorem mulP2_toNat {a : Int} {k : Nat} (ha : 0 ≤ a) : (a * P2 k).toNat = a.toNat * 2 ^ k := by
  rw [P2_nat]
  obtain ⟨a', rfl⟩ := Int.eq_ofNat_of_zero_le ha
  rw [← Int.natCast_mul]
  simp only [Int.toNat_natCast]

theorem lim_is : lim2 = (((2 ^ 54 - 1) * 2 ^ 970 * ((2 ^ 54 - 1) * 2 ^ 970) : Nat) : Int) := by
  have e : lim = (((2 ^ 54 - 1) * 2 ^ 970 : Nat) : Int) := by decide +kernel
  unfold lim2
  rw [e, Int.natCast_mul ((2 ^ 54 - 1) * 2 ^ 970)]
theorem past_aux {n m c : Int} {z : Nat} (hn : 0 < n) (hm : 0 < m) (hc : c = (z : Int)) : m * c ≤ n ↔ m.toNat * z ≤ n.toNat := by
  subst hc
  obtain ⟨n', rfl⟩ := Int.eq_ofNat_of_zero_le (Int.le_of_lt hn)
  obtain ⟨m', rfl⟩ := Int.eq_ofNat_of_zero_le (Int.le_of_lt hm)
  simp only [Int.toNat_natCast]
  rw [← Int.natCast_mul]
  exact Int.ofNat_le
theorem past_is {n m : Int} (hn : 0 < n) (hm : 0 < m) : m * lim2 ≤ n ↔ (2 ^ 54 - 1) * 2 ^ 2045 * ((2 ^ 54 - 1) * 2 ^ 2045) * m.toNat ≤ 4 * n.toNat * 2 ^ 2148 := by
  have h1 := past_aux hn hm lim_is
  rw [h1]
  have p : 0 < 2 ^ 2150 := Nat.two_pow_pos _
  rw [← Nat.mul_le_mul_right_iff p]
  have ea : m.toNat * ((2 ^ 54 - 1) * 2 ^ 970 * ((2 ^ 54 - 1) * 2 ^ 970)) * 2 ^ 2150 = (2 ^ 54 - 1) * 2 ^ 2045 * ((2 ^ 54 - 1) * 2 ^ 2045) * m.toNat := by
    have e : (2 ^ 54 - 1) * 2 ^ 970 * ((2 ^ 54 - 1) * 2 ^ 970) * 2 ^ 2150 = (2 ^ 54 - 1) * 2 ^ 2045 * ((2 ^ 54 - 1) * 2 ^ 2045) := by decide +kernel
    rw [Nat.mul_assoc, e, Nat.mul_comm]
  have eb : n.toNat * 2 ^ 2150 = 4 * n.toNat * 2 ^ 2148 := by
    have e : (2 : Nat) ^ 2150 = 4 * 2 ^ 2148 := by decide +kernel
    rw [e]
    generalize (2 : Nat) ^ 2148 = z
    ac_rfl
  rw [ea, eb]

/-- what the division gives -/
def QuotOk (n m a b : Int) : Prop := 0 ≤ a ∧ 0 < b ∧ (roundMag a.toNat b.toNat = infMag ↔ m * lim2 ≤ n) ∧ (roundMag a.toNat b.toNat < infMag → RootP n m (roundMag a.toNat b.toNat))

theorem quot_of {n m : Int} {n' m' g d A N : Nat} {a b : Int} (hn : 0 < n) (hm : 0 < m) (S : Scl n.toNat m.toNat n' m' g d A N) (ha : a = (N : Int)) (hb : b = ((2 ^ d : Nat) : Int)) : QuotOk n m a b := by
  subst ha hb
  refine ⟨Int.natCast_nonneg _, by exact_mod_cast Nat.two_pow_pos d, ?_, ?_⟩
  · rw [past_is hn hm]
    exact S.over
  · intro h
    exact S.near h

theorem quot_pos {n m q : Int} (hn : 0 < n) (hm : 0 < m) (hq : 0 ≤ q) (hd : 2 * q ≤ ((intBits n : Nat) : Int) - ((intBits m : Nat) : Int) - 109) :
    QuotOk n m (rtoZ n (m * P2 (2 * q).toNat) * P2 q.toNat) 1 := by
  have hm' : 0 < m.toNat := by omega
  refine quot_of (n' := n.toNat) (m' := m.toNat * 2 ^ (2 * q).toNat) (g := q.toNat + 1074) (d := 0) (A := rtoN n.toNat (m.toNat * 2 ^ (2 * q).toNat)) (N := rtoN n.toNat (m.toNat * 2 ^ (2 * q).toNat) * 2 ^ q.toNat) hn hm ⟨hm', Nat.mul_pos hm' (Nat.two_pow_pos _), ?_, rfl, ?_, ?_⟩ ?_ rfl
  · have e : (2 * q).toNat = q.toNat + q.toNat := by omega
    have e2 : (2 : Nat) ^ 2148 = 2 ^ 1074 * 2 ^ 1074 := by rw [← Nat.pow_add]
    rw [e, e2, Nat.pow_add, Nat.pow_add, Nat.pow_zero]
    generalize (2 : Nat) ^ 1074 = z
    generalize (2 : Nat) ^ q.toNat = y
    rw [Nat.mul_one]
    ac_rfl
  · rw [Nat.mul_assoc, ← Nat.pow_add]
  · have := fits (i := (2 * q).toNat) (j := 0) hn hm (by omega)
    simpa using this
  · rw [rto_is (Int.le_of_lt hn) (mulP2_pos hm), mulP2_toNat (Int.le_of_lt hm), P2_nat, ← Int.natCast_mul]
theorem quot_neg {n m q : Int} (hn : 0 < n) (hm : 0 < m) (hq : ¬ 0 ≤ q) (hd : 2 * q ≤ ((intBits n : Nat) : Int) - ((intBits m : Nat) : Int) - 109) :
    QuotOk n m (rtoZ (n * P2 (-2 * q).toNat) m) (1 * P2 (-q).toNat) := by
  have hm' : 0 < m.toNat := by omega
  refine quot_of (n' := n.toNat * 2 ^ (-2 * q).toNat) (m' := m.toNat) (g := 1074) (d := (-q).toNat) (A := rtoN (n.toNat * 2 ^ (-2 * q).toNat) m.toNat) (N := rtoN (n.toNat * 2 ^ (-2 * q).toNat) m.toNat) hn hm ⟨hm', hm', ?_, rfl, rfl, ?_⟩ ?_ ?_
  · have e : (-2 * q).toNat = (-q).toNat + (-q).toNat := by omega
    have e2 : (2 : Nat) ^ 2148 = 2 ^ 1074 * 2 ^ 1074 := by rw [← Nat.pow_add]
    rw [e, e2, Nat.pow_add]
    generalize (2 : Nat) ^ 1074 = z
    generalize (2 : Nat) ^ (-q).toNat = y
    ac_rfl
  · have := fits (i := 0) (j := (-2 * q).toNat) hn hm (by omega)
    simpa using this
  · rw [rto_is (Int.le_of_lt (mulP2_pos hn)) hm, mulP2_toNat (Int.le_of_lt hn)]
  · rw [Int.one_mul, P2_nat]

section
variable {prog : Program} {w : World} {A : Around} {E : Value → Shared → Prop} {s : Shared} {Q : Value → Shared → Prop} {a b n m : Int} {t u : Tok}
theorem div_c (hA : A.handled = none) (hQ : QuotOk n m a b) (hinf : m * lim2 ≤ n → ∀ h' tk e, Heap.NewExc s.heap h' e "OverflowError" → E (.ref e) { s with heap := h', toks := tk })
    (hfin : ∀ T, T < infMag → RootP n m T → ¬ m * lim2 ≤ n → Q (.float (pack false T) s.toks) { s with toks := s.toks + 1 }) : wpAny (model prog w) A (binaryOp .Div (.int a t) (.int b u)) Q E s := by
  obtain ⟨ha, hb, hov, hroot⟩ := hQ
  have e1 : decide (a < 0) = false := decide_eq_false (by omega)
  have e2 : decide (b < 0) = false := decide_eq_false (by omega)
  have e3 : a.natAbs = a.toNat := by omega
  have e4 : b.natAbs = b.toNat := by omega
  have eF : Float64.ofFrac (decide (a < 0) != decide (b < 0)) a.natAbs b.natAbs = pack false (roundMag a.toNat b.toNat) := by
    rw [e1, e2, e3, e4, show (false != false) = false from rfl]; unfold Float64.ofFrac; rfl
  have hle : roundMag a.toNat b.toNat ≤ infMag := by rw [Float64.roundMag_min]; omega
  refine PySem.Flt.div_ii hA (fun h => absurd h (by omega)) (fun _ hi => ?_) (fun _ hi => ?_)
  · rw [eF] at hi
    refine hinf (hov.mp ?_)
    refine Nat.le_antisymm hle (Nat.le_of_not_lt fun hlt => ?_)
    rw [Float64.isInf_pack hlt] at hi
    cases hi
  · rw [eF] at hi ⊢
    have hne : roundMag a.toNat b.toNat ≠ infMag := fun h => hi (by rw [h]; exact Float64.isInf_pack_inf false)
    have hlt : roundMag a.toNat b.toNat < infMag := by omega
    exact hfin _ hlt (hroot hlt) (fun h => hne (hov.mpr h))
end

end

section
open PySem PySem.W PyProof.Rows PySem.Spec PySem.Calls
open Builtin.Int (intBits)
open Float64 (V decode pack infMag ratio shift)
theorem pre_pos {n m q : Int} (hn : 0 < n) (hm : 0 < m) (hnb : intBits n ≤ 4000) (hmb : intBits m ≤ 4000) (hq : 0 ≤ q) (hd : 2 * q ≤ ((intBits n : Nat) : Int) - ((intBits m : Nat) : Int) - 109) :
    0 ≤ n ∧ 0 < m * P2 (2 * q).toNat ∧ intBits n ≤ 12000 ∧ intBits (m * P2 (2 * q).toNat) ≤ 8000 :=
  ⟨Int.le_of_lt hn, mulP2_pos hm, by omega, Nat.le_trans (intBits_mulP2 hmb) (by omega)⟩
theorem pre_neg {n m q : Int} (hn : 0 < n) (hm : 0 < m) (hnb : intBits n ≤ 4000) (hmb : intBits m ≤ 4000) (hq : ¬ 0 ≤ q) (hd : ((intBits n : Nat) : Int) - ((intBits m : Nat) : Int) - 109 ≤ 2 * q + 1) :
    0 ≤ n * P2 (-2 * q).toNat ∧ 0 < m ∧ intBits (n * P2 (-2 * q).toNat) ≤ 12000 ∧ intBits m ≤ 8000 :=
  ⟨Int.le_of_lt (mulP2_pos hn), hm, Nat.le_trans (intBits_mulP2 hnb) (by omega), by omega⟩
local macro_rules | `(tactic| walk_at "binaryOp Pow int int") => `(tactic| first | ((with_reducible show wpAny _ _ (binaryOp _ (Value.int 2 _) (Value.int 1024 _)) _ _ _); refine pow2_k (k := 1024) rfl (by decide) ?_) | ((with_reducible show wpAny _ _ (binaryOp _ (Value.int 2 _) (Value.int 970 _)) _ _ _); refine pow2_k (k := 970) rfl (by decide) ?_) | ((with_reducible show wpAny _ _ (binaryOp _ (Value.int (P2 _ - P2 _) _) (Value.int 2 _)) _ _ _); refine pow_lim ?_))
local macro_rules | `(tactic| k_room) => `(tactic| ktr_room)
local macro_rules | `(tactic| walk_at "my_pre") => `(tactic| first
  | ((with_reducible refine pre_pos ?pa ?pb ?pc ?pd ?pe ?pf); (case pa => assumption); (case pb => assumption); (case pc => assumption); (case pd => assumption); (case pe => assumption); (case pf => omega))
  | ((with_reducible refine pre_neg ?pa ?pb ?pc ?pd ?pe ?pf); (case pa => assumption); (case pb => assumption); (case pc => assumption); (case pd => assumption); (case pe => assumption); (case pf => omega)))
local macro_rules | `(tactic| walk_at "binaryOp LShift int int") => `(tactic| first
  | ((refine' lshift_P2 ?h0 ?h1 ?h2 ?h3 ?_); (case h0 => omega); (case h1 => omega); (case h2 => first | assumption | exact rtoZ_bits (Int.le_of_lt (by assumption)) (mulP2_pos (by assumption)) (by assumption) | exact bits_1); (case h3 => decide)))
local macro_rules | `(tactic| walk_at "binaryOp Div int int") => `(tactic| (k_dflt ((refine' div_c (n := _) (m := _) rfl ?hQ ?_ ?_); (case hQ => first | ((with_reducible refine quot_pos ?qa ?qb ?qc ?qd); (case qa => assumption); (case qb => assumption); (case qc => assumption); (case qd => omega)) | ((with_reducible refine quot_neg ?qa ?qb ?qc ?qd); (case qa => assumption); (case qb => assumption); (case qc => assumption); (case qd => omega))); rotate_left; (intro T9 hT9 hR9 hP9); rotate_left; (intro hov h' tk e hx; (try dsimp only)))))
local macro_rules | `(tactic| walk_at "call ref") => `(tactic| (k_here; (with_reducible show wpAny _ _ (call (Value.ref 56) [Value.int _ _, Value.int _ _]) _ _ _); (refine wpAny_call ?_); k_dflt k_enter))
local macro_rules | `(tactic| walk_at "call ref") => `(tactic| (k_here; (with_reducible show wpAny _ _ (call (Value.ref 49) [Value.int _ _, Value.int _ _]) _ _ _); k_dflt (
  (refine' rto_c _ _ _ _ _ _ _ _ _ _ _ _ _ _ _ _ _ _ _ _ _ _ _ _ _ _ ?k1 ?k2 ?k3 ?k4 ?k5 ?kK ?kp ?kd ?ku ?_);
  (case k1 => k_asm); (case k2 => k_asm); (case k3 => k_asm); (case k4 => k_asm); (case k5 => k_asm); (case kK => first | exact rfl | assumption); (case kd => ktr_room); (case ku => ktr_units); (case kp => walk_at "my_pre");
  intro t9 h9 tk9 F9 N9; (try dsimp only); (try k_fold))))
local macro_rules | `(tactic| walk_at "call ref") => `(tactic| (k_here; (with_reducible show wpAny _ _ (call (Value.ref 63) [Value.float _ _, Value.int _ _, Value.int _ _]) _ _ _); k_dflt (
  (refine' root_c _ _ _ _ _ _ _ _ _ _ _ _ _ _ _ _ _ _ _ _ _ _ _ _ _ _ _ _ ?k1 ?k2 ?k3 ?k4 ?k5 ?kK ?kp ?kd ?ku ?_);
  (case k1 => k_asm); (case k2 => k_asm); (case k3 => k_asm); (case k4 => k_asm); (case k5 => k_asm); (case kK => first | exact rfl | assumption); (case kd => ktr_room); (case ku => ktr_units); (case kp => exact ⟨by assumption, by assumption, by assumption, by assumption, by assumption, by assumption⟩);
  intro t9 h9 tk9 F9 N9; (try dsimp only); (try k_fold))))
set_option maxRecDepth 100000 in
set_option maxHeartbeats 4000000 in
theorem right_c (w : World) (mean : ExcName → Option Value) (mg mb : Str → Option Value) (n : Int) (t : Tok) (m : Int) (u : Tok) :
    HandsS w mean mg mb 70 (Pre n m) [.int n t, .int m u] (fun _ => .bool true) := by
  k_with_none
  unfold HandsS ProgX LooseX
  k_fill
  intro news dp un gd cn nms a ccd A₀ base h₀ L m' s Q E B F X N T XB TB hpre hd hu hret
  obtain ⟨hn0, hm0, hnb, hmb⟩ := hpre
  k_with "storeName" => ((with_reducible show wpAny _ _ (storeName _ _ (Value.int (Int.fdiv _ 2) _)) _ _ _); (refine store_gen2 (fun z => 2 * z ≤ ((intBits n : Nat) : Int) - ((intBits m : Nat) : Int) - 109 ∧ ((intBits n : Nat) : Int) - ((intBits m : Nat) : Int) - 109 ≤ 2 * z + 1) ?hm ?_); (case hm => exact half_bd _); intro q9 hq9)
  k_with "binaryOp Mult int int" => (refine mul_bits hmb lim2_bits (by decide) ?_)
  w_strict (
    refine wpAny_call ?_
    k_dflt kts_go
    k_steps
    all_goals (
      refine' cb_retB (Q := Q) (s := s) hret ?e1 ?e2 ?e3
      (case e2 => k_asm)
      (case e3 => first | k_asm | (refine' cb_drop ?cbN ?cbS; (case cbN => assumption); (case cbS => kcj_all)))
      (case e1 => first | with_reducible rfl | exact decide_eq_true (by assumption))))

end

section
open PySem PySem.W PyProof.Rows PySem.Spec PySem.Calls
local macro_rules | `(tactic| walk_at "my_len") => `(tactic| (simp only [List.length_append, List.length_take, List.length_cons, List.length_nil] at *; omega))
local macro_rules | `(tactic| walk_at "my_bits") => `(tactic| first | assumption | (refine bits_core (by assumption) (by assumption)) | (refine intBits_mul_le (m := 200) (n := 3601) (bits_core (by assumption) (by assumption)) (by assumption)) | exact intBits_le_64 (by omega) (by omega) | exact intBits_mul_le (m := 2) (n := 3601) (by decide) (by assumption))
local macro_rules | `(tactic| walk_at "binaryOp Pow int int") => `(tactic| (k_here; (with_reducible show wpAny _ _ (binaryOp _ (Value.int 4 _) _) _ _ _); first | (refine pow4_pos ?_; intro P9 t9 hP9 hB9) | (refine pow4_neg ?_; intro P9 t9 hP9 hB9)))
local macro_rules | `(tactic| walk_at "call ref") => `(tactic| (k_here; (with_reducible show wpAny _ _ (call (Value.ref 70) [Value.int _ _, Value.int _ _]) _ _ _); k_dflt (
  (refine' right_c _ _ _ _ _ _ _ _ _ _ _ _ _ _ _ _ _ _ _ _ _ _ _ _ ?k1 ?k2 ?k3 ?k4 ?k5 ?k6 ?k7 ?kp ?kd ?ku ?_);
  (case k1 => k_asm); (case k2 => k_asm); (case k3 => k_asm); (case k4 => k_asm); (case k5 => k_asm); (case k6 => k_asm); (case k7 => k_asm); (case kd => ktr_room); (case ku => ktr_units); (case kp => (with_reducible refine pre_of ?pa ?pb ?pc ?pd ?pe ?pf ?pg); (case pa => assumption); (case pb => exact third_bd (by assumption)); (case pc => exact fac_bd (by assumption)); (case pd => assumption); (case pe => assumption); (case pf => assumption); (case pg => assumption));
  intro t9 h9 tk9 F9 N9; (try dsimp only); (try k_fold))))
set_option maxRecDepth 100000 in
set_option maxHeartbeats 8000000 in
theorem main : PySem.Challenge.rw_kp0007_01.Holds := by
  k_with_none
  k_with "pyIter ref" => (k_of "third" => ((have hI3 := ints3 (by assumption)); k_search (fun pre => True)))
  k_with "pyIter ref" => (k_of "factor" => ((have hI2 := ints2 (by assumption)); k_search (fun pre => True)))
  k_with "pyIter ref" => (k_of "k" => k_search (fun pre => True))
  k_with "subscriptTail Name BinOp ref int" => (k_dflt (refine' item_any ?k1 ?k2 ?k3 ?k4 ?k5 ?_ ?k6; (case k1 => is_list); (case k2 => assumption); (case k3 => walk_at "my_len"); (case k4 => walk_at "my_len"); (case k5 => walk_at "my_len"); (case k6 => with_unfolding_all rfl))) ; intro y9 t9
  k_with "storeName" => ((with_reducible show wpAny _ _ (storeName _ _ (Value.int (2 * (_ + _) + 1) _)) _ _ _); (refine store_gen (fun z => 3 ≤ z ∧ z < 2 ^ 54) ?hm ?_); (case hm => exact mid_bd (by assumption) (by assumption)); intro mid9 hmid9)
  k_with "binaryOp Mult int int" => ((try (have hTh := third_bd (by assumption))); (try (have hFa := fac_bd (by assumption))); (refine' mul_bits ?ha ?hb ?hab ?_); (case ha => walk_at "my_bits"); (case hb => walk_at "my_bits"); (case hab => decide))
  refine hd ?_
  w_strict (k_go0; (all_goals try k_fold); k_steps)

end
end Mine

theorem PySem.Challenge.cw_kp0007_01_holds : PySem.Challenge.rw_kp0007_01.Holds := by
  exact Mine.main
