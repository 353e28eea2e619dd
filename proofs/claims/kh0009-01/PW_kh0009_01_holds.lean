import PyProof.Rows.All
import Wide.All
import OpenK.AllK
import Wide.FinOn
import PySem.Challenge.RW_kh0009_01
open PySem PySem.W PyProof.Rows
set_option Elab.async false
section
open PySem PySem.W PyProof.Rows
set_option Elab.async false
set_option maxRecDepth 100000
set_option maxHeartbeats 8000000
namespace Mine
/-- the top's run over a tree of objects -/
def topRunG (ok : Thread → Bool) (st : SharedT → Thread → Option (SharedT × Thread)) : Nat → SharedT → Thread → Option SharedT
  | 0, _, _ => none
  | n + 1, s, t => match through t with
    | true => some s
    | false => match ok t with
      | false => none
      | true => match st s t with
        | some (s', t') => topRunG ok st n s' t'
        | none => none
theorem topRunG_of {tb : String → Option Builtin} {p : Program} {w : World} {n₀ : Nat} {ann : Option Value} : ∀ {n : Nat} {s s' : SharedT} {t : Thread}, topRunG (stepOk n₀ ann) (stepT (denote tb) p w) n s t = some s' → topRun tb p w n₀ ann n s.abs t = some s'.abs
  | 0, _, _, _, h => by cases h
  | n + 1, s, s', t, h => by
    unfold topRunG at h
    unfold topRun
    cases he : through t with
    | true => rw [he] at h; cases h; rfl
    | false =>
      rw [he] at h
      cases hk : stepOk n₀ ann t with
      | false => rw [hk] at h; cases h
      | true =>
        rw [hk] at h
        cases hs : stepT (denote tb) p w s t with
        | none => rw [hs] at h; cases h
        | some r => obtain ⟨s₂, t₂⟩ := r; rw [hs] at h; dsimp only at h ⊢; rw [stepT_spec hs]; exact topRunG_of h
def treeL : List Obj → Nat → BT → BT
  | [], _, t => t
  | o :: l, i, t => treeL l (i + 1) (t.ins i o)
noncomputable def bootT (P : Params) : BT := treeL (boot_heap P).objs.toList 0 .nil
theorem bootT_abs (P : Params) : absHeap (bootT P) (boot_heap P).objs.size (boot_heap P).life = boot_heap P := by kernel_rfl
theorem boot_ns (P : Params) : (boot_heap P).isNs mainGlobals = true := by kernel_rfl
/-- the head by one check of the top; the opening is the kit's -/
theorem left_boot {p q : Program} {loose : List Str} {Xt : Shared → Bool} {α : Type} {Yf : Shared → α} {Ya : World → α} {N : Nat} {g0 : Bool} (e : opening p = plainProg p.main.scope.names) (hN : Nat.ble 600 N = true) (f : ∀ s, fenceModules? p s = some s)
    (h : ∀ (w : World) (os : OsState), (topRunG (PySem.W.Fast.tw6613529449190102663 (boot_heap w.params).objs.size ((boot_heap w.params).nsMap mainGlobals "__annotations__")) (PySem.W.Fast.tw10156331382660048174 (PySem.W.Fast.tw11892475500146522536 PySem.W.Fast.tw14364793385576792824) p w) N ⟨bootT w.params, (boot_heap w.params).objs.size, (boot_heap w.params).life, Array.mk [], boot_drawn, boot_toks, os⟩ (topStub p)).map
      (fun s => (staticsOk (importedModules p.main.body) (boot_heap w.params) s.abs.heap && namesBound p s.abs.heap && gensDone s.abs && laidKept (boot_heap w.params) s.abs.heap, PySem.W.Fast.tw4187177175401517315 q loose (importedModules p.main.body) Xt g0 s.abs, Yf s.abs)) = some (true, openGood q loose, Ya w)) : LeftO p q loose Xt Yf Ya N g0 := fun w => by
  obtain ⟨s, hs, hv⟩ := Option.map_eq_some_iff.mp (boot_open e hN f w)
  obtain ⟨hp, g, d, tk, os⟩ := s
  obtain ⟨h1, h2, h3, h4⟩ : hp = boot_heap w.params ∧ g = Array.mk [] ∧ d = boot_drawn ∧ tk = boot_toks := by simpa using hv
  obtain ⟨s', r, v⟩ := Option.map_eq_some_iff.mp (h w os)
  obtain ⟨v1, v2, v3⟩ : _ ∧ _ ∧ _ := by simpa only [Prod.mk.injEq] using v
  rw [← PySem.W.Fast.te14364793385576792824, ← PySem.W.Fast.te11892475500146522536, ← PySem.W.Fast.te10156331382660048174, ← PySem.W.Fast.te6613529449190102663] at r
  rw [← PySem.W.Fast.te4187177175401517315] at v2
  have r' := topRunG_of r
  unfold SharedT.abs at r'
  dsimp only at r'
  rw [bootT_abs] at r'
  unfold openEnds
  rw [hs, h1, h2, h3, h4]
  show (topFrom treeTable p w N ⟨boot_heap w.params, Array.mk [], boot_drawn, boot_toks, os⟩).map _ = _
  unfold topFrom
  have z : ((boot_heap w.params).isNs mainGlobals && (Array.mk [] : Array GenState).size == 0) = true := by rw [boot_ns]; rfl
  dsimp only
  rw [z, r']
  show Option.map _ (match staticsOk (importedModules p.main.body) (boot_heap w.params) s'.abs.heap && namesBound p s'.abs.heap && gensDone s'.abs && laidKept (boot_heap w.params) s'.abs.heap with | true => some s'.abs | false => none) = _
  rw [v1]
  show some (openSeen q loose (importedModules p.main.body) Xt g0 s'.abs, Yf s'.abs) = _
  rw [v2, v3]
theorem hd_e : opening PySem.Challenge.pw_kh0009_01 = plainProg PySem.Challenge.pw_kh0009_01.main.scope.names := by kernel_rfl
theorem hd_f : ∀ s, fenceModules? PySem.Challenge.pw_kh0009_01 s = some s := fun s => by kernel_rfl
noncomputable def vw : Program := view PySem.Challenge.pw_kh0009_01 [0, 2, 3, 4, 5, 6, 8, 10, 11, 13, 15, 17, 18, 19, 20, 21, 22]
local macro_rules | `(tactic| o_head $H) => `(tactic| (refine holds_open (q := vw) (loose := [Str.ofString "POW_2_381", Str.ofString "POW_2_382", Str.ofString "POW_2_383", Str.ofString "is_point_at_infinity", Str.ofString "FQ"]) (Xt := fun s => xlAt vw [(Str.ofString "POW_2_381", WData.int 4925250774549309901534880012517951725634967408808180833493536675530715221437151326426783281860614455100828498788352), (Str.ofString "POW_2_382", WData.int 9850501549098619803069760025035903451269934817616361666987073351061430442874302652853566563721228910201656997576704), (Str.ofString "POW_2_383", WData.int 19701003098197239606139520050071806902539869635232723333974146702122860885748605305707133127442457820403313995153408)] s && recOk (RowW.records PySem.Challenge.rw_kh0009_01.row.toRowW) s) (XP := XL vw [(Str.ofString "POW_2_381", WData.int 4925250774549309901534880012517951725634967408808180833493536675530715221437151326426783281860614455100828498788352), (Str.ofString "POW_2_382", WData.int 9850501549098619803069760025035903451269934817616361666987073351061430442874302652853566563721228910201656997576704), (Str.ofString "POW_2_383", WData.int 19701003098197239606139520050071806902539869635232723333974146702122860885748605305707133127442457820403313995153408)]) (Yf := Hook.obs $H) (Ya := Hook.val $H) (YP := Hook.says $H) (N := 3014) (left_boot hd_e (by decide) hd_f (fun w os => by kernel_rfl)) (Hook.of $H) (Hook.keeps $H) (fun s e => xl_of s (Bool.and_eq_true_iff.mp e).1) XL.keeps (by rfl) (by rfl) (by rfl) (fun s e => recFacts_of (Bool.and_eq_true_iff.mp e).2) (by rfl) ?hk (by decide +kernel) ⟨rfl, rfl, rfl, rfl, rfl, (by decide +kernel)⟩ ?hw ?hc; (case hk => first | assumption | decide +kernel)))
open_top hd for PySem.Challenge.rw_kh0009_01
end Mine
end
section
open PySem PySem.W PySem.Spec PySem.Calls PyProof.Rows
set_option Elab.async false
set_option maxRecDepth 100000
set_option maxHeartbeats 8000000
namespace Mine

/-- the names the top leaves loose -/
noncomputable abbrev LS : List Str := looseW vw [Str.ofString "POW_2_381", Str.ofString "POW_2_382", Str.ofString "POW_2_383", Str.ofString "is_point_at_infinity", Str.ofString "FQ"]

/-- a mark: lets the kit find the row's text -/
def Tag (_l : W.OpenLaw) (_k : Params → Frag) (P : Prop) : Prop := P
theorem Tag.out {l : W.OpenLaw} {k : Params → Frag} {P : Prop} (h : Tag l k P) : P := h

/-- a contract of a def: from any caller, with any ledger -/
abbrev Con (w : World) (d : Nat) (f : Addr) (vs : List Value) (news : List (Addr × Obj))
    (Ret : Heap → Addr → (Str → Option Value) → Shared → (Value → Shared → Prop) → Prop) : Prop :=
  ∀ (mean : ExcName → Option Value) (mg mb : Str → Option Value) (dp un : Nat) (gd : Option (List Code)) (cn : Str) (cs : Scope) (a : Addr) (ccd : Value) (cl : List (Str × Addr)) (outer : List Env) (A₀ : Around) (base h₀ : Heap) (L : Addr) (m : Str → Option Value) (s : Shared) (Q E : Value → Shared → Prop),
    Below A₀ base outer h₀ → Fr h₀ L s.heap m → (hd.heap_39 w.params).In h₀ → News h₀ L s.heap news → Top vw LS mean mg mb h₀ → cs.kind = .function →
    dp + d < recursionLimit → un + 8 * d < cLine → Ret h₀ L m s Q →
    wpAny (model PySem.Challenge.rw_kh0009_01.row.prog w) (ktrTop dp un gd cn cs L a ccd cl outer) (call (.ref f) vs) Q E s

/-- an object's dict: the modulus, the number -/
abbrev fqD (w : World) (md n : Int) (t1 t2 u1 u2 : Tok) : Obj :=
  dictOf [⟨PyData.keyHash w.params (Str.ofString "field_modulus"), .str (Str.ofString "field_modulus") t1, .int md u1⟩, ⟨PyData.keyHash w.params (Str.ofString "n"), .str (Str.ofString "n") t2, .int n u2⟩] 2

/-- below 2^400 both ways -/
def Bnd (a : Int) : Prop := -2582249878086908589655919172003011874329705792829223512830659356540647622016841194629645353280137831435903171972747493376 < a ∧ a < 2582249878086908589655919172003011874329705792829223512830659356540647622016841194629645353280137831435903171972747493376
theorem Bnd.bits {a : Int} (h : Bnd a) : Builtin.Int.intBits a ≤ 400 := by
  unfold Builtin.Int.intBits
  split
  · exact Nat.zero_le _
  · rename_i h0
    have h0' : a.natAbs ≠ 0 := fun e => h0 (by simpa using Int.natAbs_eq_zero.mp e)
    have hn : a.natAbs < 2 ^ 400 := by
      have e : (2 : Nat) ^ 400 = 2582249878086908589655919172003011874329705792829223512830659356540647622016841194629645353280137831435903171972747493376 := by decide +kernel
      rw [e]; unfold Bnd at h; omega
    have := (Nat.log2_lt h0').mpr hn
    omega
theorem Bnd.mul {a b : Int} (ha : Bnd a) (hb : Bnd b) : IntMulOk a b := IntMulOk.of_bits (Nat.le_trans ha.bits (by decide)) (Nat.le_trans hb.bits (by decide))
theorem Bnd.noPylong {a b : Int} (hb : Bnd b) : Builtin.divisionGoesByPylong a b = false := by
  refine PyProof.noPylong_of_log2 ?_
  have h := hb.bits
  unfold Builtin.Int.intBits at h
  split at h
  · rename_i h0
    have : b = 0 := by simpa using h0
    subst this; decide +kernel
  · omega

section
variable {prog : Program} {w : World} {A : Around} {E : Value → Shared → Prop} {s : Shared} {a b : Int} {t u : Tok} {Q : Value → Shared → Prop}
theorem mod_e (hb : 0 < b) (h : Q (.int (a % b) s.toks) { s with toks := s.toks + 1 }) : wpAny (model prog w) A (binaryOp .Mod (.int a t) (.int b u)) Q E s :=
  mod_int' (by omega) (by rw [Int.fmod_eq_emod_of_nonneg _ (Int.le_of_lt hb)]; exact h)
theorem imod_e (hb : 0 < b) (h : Q (.int (a % b) s.toks) { s with toks := s.toks + 1 }) : wpAny (model prog w) A (inplaceOp .Mod (.int a t) (.int b u)) Q E s :=
  imod_int (by omega) (by rw [Int.fmod_eq_emod_of_nonneg _ (Int.le_of_lt hb)]; exact h)
theorem div_e (hb : 0 < b) (hB : Bnd b) (h : Q (.int (a / b) s.toks) { s with toks := s.toks + 1 }) : wpAny (model prog w) A (binaryOp .FloorDiv (.int a t) (.int b u)) Q E s :=
  floordiv_int (by omega) (by rw [Int.fdiv_eq_ediv_of_nonneg _ (Int.le_of_lt hb)]; exact h) (.inl hB.noPylong)
theorem mul_e (ha : Bnd a) (hb : Bnd b) (h : Q (.int (a * b) s.toks) { s with toks := s.toks + 1 }) : wpAny (model prog w) A (binaryOp .Mult (.int a t) (.int b u)) Q E s :=
  PyProof.Rows.mul_int h (ha.mul hb)
end
end Mine
end
section
namespace Mine
/-- what holds between the turns of prime_field_inv -/
structure EInv (a n lm low hm high : Int) : Prop where
  h1 : 0 < low
  h2 : low ≤ high
  h3 : high ≤ n
  g : Int.gcd low high = 1
  d1 : n ∣ lm * a - low
  d2 : n ∣ hm * a - high
  k : (0 ≤ lm ∧ hm ≤ 0 ∧ lm * high - hm * low = n) ∨ (lm ≤ 0 ∧ 0 ≤ hm ∧ hm * low - lm * high = n)

theorem le_mul_pos {x y : Int} (hx : 0 ≤ x) (hy : 0 < y) : x ≤ x * y := by
  have := Int.mul_le_mul_of_nonneg_left (show (1 : Int) ≤ y from hy) hx
  omega
theorem EInv.b_lm {a n lm low hm high : Int} (h : EInv a n lm low hm high) (hn : Bnd n) : Bnd lm := by
  obtain ⟨h1, h2, h3, _, _, _, k⟩ := h
  unfold Bnd at *
  rcases k with ⟨k1, k2, k3⟩ | ⟨k1, k2, k3⟩
  · have := le_mul_pos k1 (show 0 < high by omega)
    have e : 0 ≤ (-hm) * low := Int.mul_nonneg (by omega) (by omega)
    rw [Int.neg_mul] at e
    omega
  · have := le_mul_pos (show 0 ≤ -lm by omega) (show 0 < high by omega)
    have e : 0 ≤ hm * low := Int.mul_nonneg (by omega) (by omega)
    rw [Int.neg_mul] at this
    omega
theorem EInv.b_low {a n lm low hm high : Int} (h : EInv a n lm low hm high) (hn : Bnd n) : Bnd low := by
  obtain ⟨h1, h2, h3, _, _, _, k⟩ := h
  unfold Bnd at *
  omega
theorem EInv.b_r {a n lm low hm high : Int} (h : EInv a n lm low hm high) (hn : Bnd n) : Bnd (high / low) := by
  obtain ⟨h1, h2, h3, _, _, _, k⟩ := h
  have h4 : 0 ≤ high / low := Int.ediv_nonneg (by omega) (by omega)
  have h5 : high / low ≤ high := Int.ediv_le_self _ (by omega)
  unfold Bnd at *
  omega
theorem EInv.pos {a n lm low hm high : Int} (h : EInv a n lm low hm high) : 0 < low := h.h1
theorem EInv.new_eq {low high : Int} : high - low * (high / low) = high % low := by
  have := Int.emod_add_mul_ediv high low
  omega
theorem EInv.step {a n lm low hm high : Int} (h : EInv a n lm low hm high) (hl : 1 < low) : EInv a n (hm - lm * (high / low)) (high - low * (high / low)) lm low := by
  obtain ⟨h1, h2, h3, g, d1, d2, k⟩ := h
  have r0 : 0 ≤ high / low := Int.ediv_nonneg (by omega) (by omega)
  have e0 : 0 ≤ high % low := Int.emod_nonneg _ (by omega)
  have e1 : high % low < low := Int.emod_lt_of_pos _ h1
  refine ⟨?_, ?_, by omega, ?_, ?_, d1, ?_⟩
  · rw [EInv.new_eq]
    rcases Int.lt_or_eq_of_le e0 with h | h
    · exact h
    · exfalso
      have hd : low ∣ high := Int.dvd_of_emod_eq_zero h.symm
      have : Int.gcd low high = low.natAbs := Int.gcd_eq_natAbs_left hd
      omega
  · rw [EInv.new_eq]; omega
  · rw [Int.gcd_sub_mul_left_left, Int.gcd_comm]; exact g
  · have e : (hm - lm * (high / low)) * a - (high - low * (high / low)) = (hm * a - high) - (high / low) * (lm * a - low) := by grind
    rw [e]
    exact Int.dvd_sub d2 (Int.dvd_mul_of_dvd_right d1)
  · rcases k with ⟨k1, k2, k3⟩ | ⟨k1, k2, k3⟩
    · right
      have := Int.mul_nonneg k1 r0
      refine ⟨by omega, k1, ?_⟩
      grind
    · left
      have := Int.mul_nonneg (show 0 ≤ -lm by omega) r0
      rw [Int.neg_mul] at this
      refine ⟨by omega, k1, ?_⟩
      grind
theorem EInv.start {a n : Int} (hn : 1 < n) (hg : Int.gcd a n = 1) : EInv (a % n) n 1 (a % n % n) 0 n := by
  have e0 : 0 ≤ a % n := Int.emod_nonneg _ (by omega)
  have e1 : a % n < n := Int.emod_lt_of_pos _ (by omega)
  rw [Int.emod_emod_of_dvd _ (Int.dvd_refl n)]
  refine ⟨?_, by omega, Int.le_refl _, ?_, ?_, ?_, ?_⟩
  · rcases Int.lt_or_eq_of_le e0 with h | h
    · exact h
    · exfalso
      have hd : n ∣ a := Int.dvd_of_emod_eq_zero h.symm
      have : Int.gcd n a = n.natAbs := Int.gcd_eq_natAbs_left hd
      rw [Int.gcd_comm] at this
      omega
  · rw [show a % n = a - n * (a / n) by have := Int.emod_add_mul_ediv a n; omega, Int.gcd_sub_mul_left_left]; exact hg
  · simp
  · exact ⟨-1, by omega⟩
  · left; omega
theorem EInv.nz {a n : Int} (hn : 1 < n) (hg : Int.gcd a n = 1) (h0 : a % n = 0) : False := by
  have hd : n ∣ a := Int.dvd_of_emod_eq_zero h0
  have : Int.gcd n a = n.natAbs := Int.gcd_eq_natAbs_left hd
  rw [Int.gcd_comm] at this
  omega
theorem EInv.fin {a n lm low hm high : Int} (h : EInv (a % n) n lm low hm high) (hn : 1 < n) (hl : ¬ 1 < low) : a * (lm % n) % n = 1 := by
  obtain ⟨h1, h2, h3, g, d1, d2, k⟩ := h
  have e : low = 1 := by omega
  subst e
  obtain ⟨c, hc⟩ := d1
  have e3 := Int.emod_add_mul_ediv a n
  have e4 := Int.emod_add_mul_ediv lm n
  have e5 : a * (lm % n) = 1 + n * (c + lm * (a / n) - a * (lm / n)) := by
    generalize a / n = x at *
    generalize lm / n = y at *
    generalize a % n = u at *
    generalize lm % n = v at *
    subst e3
    grind
  rw [e5, Int.add_mul_emod_self_left]
  exact Int.emod_eq_of_lt (by omega) hn
end Mine
namespace Mine
theorem EInv.less {a n lm low hm high : Int} (h : EInv a n lm low hm high) (_hl : 1 < low) : (high - low * (high / low)).toNat < low.toNat := by
  have e0 : 0 ≤ high % low := Int.emod_nonneg _ (by have := h.h1; omega)
  have e1 : high % low < low := Int.emod_lt_of_pos _ h.h1
  rw [EInv.new_eq]; omega
/-- the modulus is a prime, as far as asked -/
def PrimeI (md : Int) : Prop := 1 < md ∧ ∀ z, 0 < z → z < md → Int.gcd z md = 1
/-- what compress_G1 yields -/
def CmpSpec (md X Y Z v : Int) : Prop := (Z = 0 ∧ v = 19701003098197239606139520050071806902539869635232723333974146702122860885748605305707133127442457820403313995153408 + 9850501549098619803069760025035903451269934817616361666987073351061430442874302652853566563721228910201656997576704) ∨ (Z ≠ 0 ∧ ∃ r r', 0 ≤ r ∧ r < md ∧ Z * r % md = 1 ∧ 0 ≤ r' ∧ r' < md ∧ Z * r' % md = 1 ∧ v = X * r % md + Y * r' % md * 2 / md * 4925250774549309901534880012517951725634967408808180833493536675530715221437151326426783281860614455100828498788352 + 19701003098197239606139520050071806902539869635232723333974146702122860885748605305707133127442457820403313995153408)
theorem PrimeI.cop0 {md Z : Int} (hp : PrimeI md) (hZ : 0 ≤ Z ∧ Z < md) (h : Z ≠ 0 % md) : Int.gcd Z md = 1 := hp.2 Z (by rw [Int.zero_emod] at h; omega) hZ.2
theorem Bnd.emod {a md : Int} (h : 1 < md) (hB : Bnd md) : Bnd (a % md) := by
  have e0 : 0 ≤ a % md := Int.emod_nonneg _ (by omega)
  have e1 : a % md < md := Int.emod_lt_of_pos _ (by omega)
  unfold Bnd at *; omega
theorem flag01 {a md : Int} (h : 1 < md) (h0 : 0 ≤ a) (h1 : a < md) : a * 2 / md = 0 ∨ a * 2 / md = 1 := by
  have e0 : 0 ≤ a * 2 / md := Int.ediv_nonneg (by omega) (by omega)
  have e1 : a * 2 / md < 2 := Int.ediv_lt_of_lt_mul (by omega) (by omega)
  omega
theorem Bnd.flag {a md : Int} (h : 1 < md) : Bnd (a % md * 2 / md) := by
  have e0 : 0 ≤ a % md := Int.emod_nonneg _ (by omega)
  have e1 : a % md < md := Int.emod_lt_of_pos _ (by omega)
  unfold Bnd
  rcases flag01 h e0 e1 with e | e <;> rw [e] <;> omega
end Mine
end
section
open PySem PySem.W PySem.Spec PySem.Calls PyProof.Rows
set_option Elab.async false
set_option maxRecDepth 100000
set_option maxHeartbeats 8000000
namespace Mine

local macro_rules | `(tactic| walk_at "binaryOp Mod int int") => `(tactic| (with_reducible refine mod_e ?kmp ?_; (case kmp => first | assumption | decide | omega | mul_fits)))
local macro_rules | `(tactic| walk_at "inplaceOp Mod int int") => `(tactic| (with_reducible refine imod_e ?kmp ?_; (case kmp => first | assumption | decide | omega | mul_fits)))
local macro_rules | `(tactic| walk_at "binaryOp FloorDiv int int") => `(tactic| (with_reducible refine div_e ?kmp ?kmq ?_; (case kmp => first | assumption | decide | omega | mul_fits); (case kmq => first | assumption | (unfold Bnd; omega) | decide | mul_fits)))
local macro_rules | `(tactic| walk_at "binaryOp Mult int int") => `(tactic| (with_reducible refine mul_e ?kmp ?kmq ?_; (case kmp => first | assumption | mul_fits | (unfold Bnd at *; omega)); (case kmq => first | assumption | mul_fits | (unfold Bnd at *; omega))))
local macro_rules | `(tactic| mul_fits) => `(tactic| first | exact EInv.b_lm (by assumption) (by assumption) | exact EInv.b_low (by assumption) (by assumption) | exact EInv.b_r (by assumption) (by assumption) | exact EInv.pos (by assumption))
local macro_rules | `(tactic| k_enter) => `(tactic| cell_enter)
local macro_rules | `(tactic| k_units) => `(tactic| ktr_units)

theorem c_fq (w : World) (v md : Int) (tv tm : Tok) (news : List (Addr × Obj)) (hmd : 0 < md) : Tag PySem.Challenge.rw_kh0009_01 hd.heap_39
    (Con w 3 229 [.int v tv, .int md tm] news fun h₀ L m s Q =>
      ∀ (x dx : Addr) (t1 t2 u1 u2 : Tok) (h' : Heap) (tk' : Nat), Fr h₀ L h' m → News h₀ L h' ((x, instObj 229 dx) :: (dx, fqD w md (v % md) t1 t2 u1 u2) :: news) → (∀ p ∈ news, p.1 < dx) → dx < x → Q (.ref x) { s with heap := h', toks := tk' }) := by
  w_top off
  k_with_none
  k_fill
  unfold Tag
  intro mean mg mb dp un gd cn cs a ccd cl outer A₀ base h₀ L m s Q E B F X N T hk hdp hun hret
  k_dflt (refine' call_cls ?k1 ?k2 ?k3 ?k4 ?k5 ?k6 ?_; (case k1 => k_asm); (case k2 => k_asm); (case k3 => k_asm); (case k4 => k_is); (case k5 => k_is); (case k6 => k_is); k_whole; intro x' d' h' F' N' l1 l2; (try k_lt l1); (try k_lt2 l2); (try k_sweep))
  k_dflt cell_enter
  k_steps
  all_goals exact hret _ _ _ _ _ _ _ _ (by assumption) (by assumption) l1 l2
theorem c_inv (w : World) (a n : Int) (ta tn : Tok) (news : List (Addr × Obj)) (hn : 1 < n) (hnB : Bnd n) (hg : Int.gcd a n = 1) : Tag PySem.Challenge.rw_kh0009_01 hd.heap_39
    (Con w 3 71 [.int a ta, .int n tn] news fun h₀ L m s Q =>
      ∀ (r : Int) (t : Tok) (h' : Heap) (tk' : Nat), 0 ≤ r → r < n → a * r % n = 1 → Fr h₀ L h' m → News h₀ L h' news → Q (.int r t) { s with heap := h', toks := tk' }) := by
  w_top off
  k_with_none
  k_fill
  unfold Tag
  intro mean mg mb dp un gd cn cs a1 ccd cl outer A₀ base h₀ L m s Q E B F X N T hk hdp hun hret
  refine wpAny_call ?_
  k_dflt cell_enter
  k_with "exec While Compare cons nil" => k_while_given ["a", "n"] (fun a n script lm low hm high => EInv a n lm low hm high) (fun a n script lm low hm high => low.toNat) "lm" "low" "hm" "high"
  k_with "state" => first | exact EInv.start (by assumption) (by assumption) | exact EInv.step (by assumption) (by assumption)
  k_with "measure" => exact EInv.less (by assumption) (by assumption)
  k_steps
  · exact (EInv.nz (by assumption) hg (by assumption)).elim
  · exact hret _ _ _ _ (Int.emod_nonneg _ (by omega)) (Int.emod_lt_of_pos _ (by omega)) (EInv.fin (by assumption) (by assumption) (by assumption)) (by assumption) (cb_drop (by assumption) (fun p hp => .tail _ (.tail _ hp)))
end Mine
end
section
open PySem PySem.W PySem.Spec PySem.Calls PyProof.Rows
set_option Elab.async false
set_option maxRecDepth 100000
set_option maxHeartbeats 8000000
namespace Mine
theorem Con.use {w : World} {d : Nat} {f : Addr} {vs : List Value} {news : List (Addr × Obj)} {Ret : Heap → Addr → (Str → Option Value) → Shared → (Value → Shared → Prop) → Prop} (h : Con w d f vs news Ret)
    {mean : ExcName → Option Value} {mg mb : Str → Option Value} {dp un : Nat} {gd : Option (List Code)} {cn : Str} {cs : Scope} {a : Addr} {ccd : Value} {cl : List (Str × Addr)} {outer : List Env} {A₀ : Around} {base h₀ : Heap} {L : Addr} {m : Str → Option Value} {s : Shared} {Q E : Value → Shared → Prop}
    (B : Below A₀ base outer h₀) (F : Fr h₀ L s.heap m) (X : (hd.heap_39 w.params).In h₀) (N : News h₀ L s.heap news) (T : Top vw LS mean mg mb h₀) (hk : cs.kind = .function)
    (hdp : dp + d < recursionLimit) (hun : un + 8 * d < cLine) (hret : Ret h₀ L m s Q) :
    wpAny (model PySem.Challenge.rw_kh0009_01.row.prog w) (ktrTop dp un gd cn cs L a ccd cl outer) (call (.ref f) vs) Q E s :=
  h _ _ _ _ _ _ _ _ _ _ _ _ _ _ _ _ _ _ _ _ B F X N T hk hdp hun hret

local macro_rules | `(tactic| walk_at "binaryOp Mod int int") => `(tactic| (with_reducible refine mod_e ?kmp ?_; (case kmp => first | assumption | decide | omega | mul_fits)))
local macro_rules | `(tactic| walk_at "inplaceOp Mod int int") => `(tactic| (with_reducible refine imod_e ?kmp ?_; (case kmp => first | assumption | decide | omega | mul_fits)))
local macro_rules | `(tactic| walk_at "binaryOp FloorDiv int int") => `(tactic| (with_reducible refine div_e ?kmp ?kmq ?_; (case kmp => first | assumption | decide | omega | mul_fits); (case kmq => first | assumption | (unfold Bnd; omega) | decide | mul_fits)))
local macro_rules | `(tactic| walk_at "binaryOp Mult int int") => `(tactic| (with_reducible refine mul_e ?kmp ?kmq ?_; (case kmp => first | assumption | mul_fits | (unfold Bnd at *; omega)); (case kmq => first | assumption | mul_fits | (unfold Bnd at *; omega))))
local macro_rules | `(tactic| k_enter) => `(tactic| (refine' code_def ?k1 ?k2 ?k3 ?k4 ?k5 ?kA ?kF ?kK ?k6 ?k7 ?k8 ?k9 ?kB ?_ ?c2 ?c3 ?c4 ?c5; (case kA => exact rfl); (case kF => exact rfl); (case kK => first | exact rfl | assumption); (case k1 => k_asm); (case k2 => k_asm); (case k3 => k_asm); (case k4 => k_asm); (case k5 => k_asm); (case k6 => k_is); (case k7 => k_is); (case k8 => ktr_room); (case k9 => first | exact BindsTo.of_eq rfl | exact binds_K (by k_in) rfl (by k_is) rfl rfl rfl); (case c5 => decide); (case kB => exact locs rfl); (case c2 => exact rfl); (case c3 => exact rfl); (case c4 => exact rfl); k_whole; intro g' L' h' FG' F' N' B' X' T'; (try dsimp only); (try k_lift B'); (try k_fold)))
local macro_rules | `(tactic| k_units) => `(tactic| ktr_units)
local macro_rules | `(tactic| walk_at "call ref") => `(tactic| (k_here; k_dflt (refine' Con.use (Tag.out (c_inv _ _ _ _ _ _ ?p1 ?p2 ?p3)) ?k1 ?k2 ?k3 ?k4 ?k5 ?kK ?kd ?ku ?_; (case k1 => k_asm); (case k2 => k_asm); (case k3 => k_asm); (case k4 => k_asm); (case k5 => k_asm); (case kK => first | exact rfl | assumption); (case p1 => first | assumption | omega); (case p2 => assumption); (case p3 => assumption); (case kd => ktr_room); (case ku => ktr_units); k_whole; intro r9 t9 h9 tk9 hr1 hr2 hr3 F9 N9; (try dsimp only); (try k_sweep); (try k_fold))))
local macro_rules | `(tactic| walk_at "call ref") => `(tactic| (k_here; k_dflt (refine' Con.use (Tag.out (c_fq _ _ _ _ _ _ ?p1)) ?k1 ?k2 ?k3 ?k4 ?k5 ?kK ?kd ?ku ?_; (case k1 => k_asm); (case k2 => k_asm); (case k3 => k_asm); (case k4 => k_asm); (case k5 => k_asm); (case kK => first | exact rfl | assumption); (case p1 => first | assumption | omega); (case kd => ktr_room); (case ku => ktr_units); k_whole; intro x9 dx9 t91 t92 u91 u92 h9 tk9 F9 N9 l91 l92; (try k_lt l91); (try k_lt2 l92); (try dsimp only); (try k_sweep); (try k_fold))))

theorem c_div {w : World} {md a b : Int} {x dx y dy : Addr} {t1 t2 u1 u2 t3 t4 u3 u4 : Tok} {news : List (Addr × Obj)} (hx : (x, instObj 229 dx) ∈ news) (hdx : (dx, fqD w md a t1 t2 u1 u2) ∈ news) (hy : (y, instObj 229 dy) ∈ news) (hdy : (dy, fqD w md b t3 t4 u3 u4) ∈ news)
    (hn : 1 < md) (hnB : Bnd md) (hg : Int.gcd b md = 1) (hB : Bnd a) : Tag PySem.Challenge.rw_kh0009_01 hd.heap_39
    (Con w 6 141 [.ref x, .ref y] news fun h₀ L m s Q =>
      ∀ (r : Int), 0 ≤ r → r < md → b * r % md = 1 → ∀ (x dx : Addr) (t1 t2 u1 u2 : Tok) (h' : Heap) (tk' : Nat), Fr h₀ L h' m → News h₀ L h' ((x, instObj 229 dx) :: (dx, fqD w md (a * r % md) t1 t2 u1 u2) :: news) → (∀ p ∈ news, p.1 < dx) → dx < x → Q (.ref x) { s with heap := h', toks := tk' }) := by
  w_top off
  k_with_none
  k_fill
  unfold Tag
  intro mean mg mb dp un gd cn cs a1 ccd cl outer A₀ base h₀ L m s Q E B F X N T hk hdp hun hret
  refine wpAny_call ?_
  k_dflt cell_enter
  k_steps
  all_goals (
    (with_reducible rename News h₀ L _ ((_, instObj 229 _) :: _) => nn)
    rw [Int.emod_emod_of_dvd _ (Int.dvd_refl _)] at nn
    refine hret _ ?a ?b ?c _ _ _ _ _ _ _ _ (by assumption) nn ?l ?g
    all_goals assumption)

end Mine
end
section
open PySem PySem.W PySem.Spec PySem.Calls PyProof.Rows
set_option Elab.async false
set_option maxRecDepth 100000
set_option maxHeartbeats 8000000
namespace Mine
local macro_rules | `(tactic| walk_at "binaryOp Mod int int") => `(tactic| (with_reducible refine mod_e ?kmp ?_; (case kmp => first | assumption | decide | omega | mul_fits)))
local macro_rules | `(tactic| walk_at "inplaceOp Mod int int") => `(tactic| (with_reducible refine imod_e ?kmp ?_; (case kmp => first | assumption | decide | omega | mul_fits)))
local macro_rules | `(tactic| walk_at "binaryOp FloorDiv int int") => `(tactic| (with_reducible refine div_e ?kmp ?kmq ?_; (case kmp => first | assumption | decide | omega | mul_fits); (case kmq => first | assumption | (unfold Bnd; omega) | decide | mul_fits)))
local macro_rules | `(tactic| walk_at "binaryOp Mult int int") => `(tactic| (with_reducible refine mul_e ?kmp ?kmq ?_; (case kmp => first | assumption | mul_fits | (unfold Bnd at *; omega)); (case kmq => first | assumption | mul_fits | (unfold Bnd at *; omega))))
local macro_rules | `(tactic| k_enter) => `(tactic| (refine' code_def ?k1 ?k2 ?k3 ?k4 ?k5 ?kA ?kF ?kK ?k6 ?k7 ?k8 ?k9 ?kB ?_ ?c2 ?c3 ?c4 ?c5; (case kA => exact rfl); (case kF => exact rfl); (case kK => first | exact rfl | assumption); (case k1 => k_asm); (case k2 => k_asm); (case k3 => k_asm); (case k4 => k_asm); (case k5 => k_asm); (case k6 => k_is); (case k7 => k_is); (case k8 => ktr_room); (case k9 => first | exact BindsTo.of_eq rfl | exact binds_K (by k_in) rfl (by k_is) rfl rfl rfl); (case c5 => decide); (case kB => exact locs rfl); (case c2 => exact rfl); (case c3 => exact rfl); (case c4 => exact rfl); k_whole; intro g' L' h' FG' F' N' B' X' T'; (try dsimp only); (try k_lift B'); (try k_fold)))
local macro_rules | `(tactic| walk_at "call ref") => `(tactic| (k_here; k_dflt (refine' Con.use (Tag.out (c_inv _ _ _ _ _ _ ?p1 ?p2 ?p3)) ?k1 ?k2 ?k3 ?k4 ?k5 ?kK ?kd ?ku ?_; (case k1 => k_asm); (case k2 => k_asm); (case k3 => k_asm); (case k4 => k_asm); (case k5 => k_asm); (case kK => first | exact rfl | assumption); (case p1 => first | assumption | omega); (case p2 => assumption); (case p3 => assumption); (case kd => ktr_room); (case ku => ktr_units); k_whole; intro r9 t9 h9 tk9 hr1 hr2 hr3 F9 N9; (try dsimp only [PySem.W.CmpBack]); (try dsimp only); (try k_sweep); (try k_fold))))
local macro_rules | `(tactic| walk_at "call ref") => `(tactic| (k_here; k_dflt (refine' Con.use (Tag.out (c_fq _ _ _ _ _ _ ?p1)) ?k1 ?k2 ?k3 ?k4 ?k5 ?kK ?kd ?ku ?_; (case k1 => k_asm); (case k2 => k_asm); (case k3 => k_asm); (case k4 => k_asm); (case k5 => k_asm); (case kK => first | exact rfl | assumption); (case p1 => first | assumption | omega); (case kd => ktr_room); (case ku => ktr_units); k_whole; intro x9 dx9 t91 t92 u91 u92 h9 tk9 F9 N9 l91 l92; (try k_lt l91); (try k_lt2 l92); (try dsimp only [PySem.W.CmpBack]); (try dsimp only); (try k_sweep); (try k_fold))))

local macro_rules | `(tactic| walk_at "call ref") => `(tactic| (k_here; (with_reducible show wpAny _ _ (call (Value.ref 141) _) _ _ _); k_dflt (refine' Con.use (Tag.out (c_div ?q1 ?q2 ?q3 ?q4 ?p1 ?p2 ?p3 ?p4)) ?k1 ?k2 ?k3 ?k4 ?k5 ?kK ?kd ?ku ?_; (case k1 => k_asm); (case k2 => k_asm); (case k3 => k_asm); (case k4 => k_asm); (case k5 => k_asm); (case kK => first | exact rfl | assumption); (case q1 => k_mem); (case q2 => k_mem); (case q3 => k_mem); (case q4 => k_mem); (case p1 => first | assumption | omega); (case p2 => assumption); (case p3 => first | assumption | exact PrimeI.cop0 (by assumption) (by assumption) (by assumption) | mul_fits); (case p4 => first | assumption | mul_fits); (case kd => ktr_room); (case ku => ktr_units); k_whole; intro r9 hr1 hr2 hr3 x9 dx9 t91 t92 u91 u92 h9 tk9 F9 N9 l91 l92; (try k_lt l91); (try k_lt2 l92); (try dsimp only [PySem.W.CmpBack]); (try dsimp only); (try k_sweep); (try k_fold))))
local macro_rules | `(tactic| mul_fits) => `(tactic| first | exact Bnd.emod (by assumption) (by assumption) | exact Bnd.flag (by assumption))
local macro_rules | `(tactic| k_mem) => `(tactic| ((repeat (with_reducible refine List.mem_cons_of_mem _ ?_)); ktr_member))
local macro_rules | `(tactic| k_units) => `(tactic| ((simp only [units_in1, units_deeper, Around.mark_units]); omega))
local macro_rules | `(tactic| walk_at "binaryOp Div") => `(tactic| (k_here; (with_reducible show wpAny _ _ (binaryOp _ (Value.ref _) (Value.ref _)) _ _ _); k_dflt (refine' binop_K ?k1 ?k2 ?k3 ?k4 ?k5 ?k6 ?k7 ?_; (case k1 => k_asm); (case k2 => k_asm); (case k3 => k_inst); (case k4 => k_typeOf); (case k5 => k_is); (case k6 => k_is); (case k7 => k_is); k_whole)))
theorem c_cmp {w : World} {md X Y Z c : Int} {pt x dx y dy z dz b db : Addr} {t1 t2 u1 u2 t3 t4 u3 u4 t5 t6 u5 u6 t7 t8 u7 u8 : Tok} {news : List (Addr × Obj)}
    (hpt : (pt, ({ cls := .type "tuple", data := .seq #[.ref x, .ref y, .ref z] } : Obj)) ∈ news)
    (hx : (x, instObj 229 dx) ∈ news) (hdx : (dx, fqD w md X t1 t2 u1 u2) ∈ news) (hy : (y, instObj 229 dy) ∈ news) (hdy : (dy, fqD w md Y t3 t4 u3 u4) ∈ news)
    (hz : (z, instObj 229 dz) ∈ news) (hdz : (dz, fqD w md Z t5 t6 u5 u6) ∈ news) (hb : (b, instObj 229 db) ∈ news) (hdb : (db, fqD w md c t7 t8 u7 u8) ∈ news)
    (hp : PrimeI md) (hnB : md < 4925250774549309901534880012517951725634967408808180833493536675530715221437151326426783281860614455100828498788352) (hX : 0 ≤ X ∧ X < md) (hY : 0 ≤ Y ∧ Y < md) (hZ : 0 ≤ Z ∧ Z < md) : Tag PySem.Challenge.rw_kh0009_01 hd.heap_39
    (Con w 10 57 [.ref pt, .ref b] news fun h₀ L m s Q =>
      ∀ (v : Int) (t : Tok) (h' : Heap) (tk' : Nat), CmpSpec md X Y Z v → Fr h₀ L h' m → News h₀ L h' news → Q (.int v t) { s with heap := h', toks := tk' }) := by
  w_top off
  k_with_none
  k_fill
  unfold Tag
  intro mean mg mb dp un gd cn cs a1 ccd cl outer A₀ base h₀ L m s Q E B F X1 N T hk hdp hun hret
  have hn1 : 1 < md := hp.1
  have hB1 : Bnd md := by unfold Bnd; omega
  have hB2 : Bnd X := by unfold Bnd; omega
  have hB3 : Bnd Y := by unfold Bnd; omega
  refine wpAny_call ?_
  k_dflt cell_enter
  k_steps
  · exact hret _ _ _ _ (.inl ⟨by rw [Int.zero_emod] at *; assumption, rfl⟩) (by assumption) (cb_drop (by assumption) (fun p hp => by simp only [List.mem_cons]; simp [hp]))
  · refine hret _ _ _ _ (.inr ⟨by rw [Int.zero_emod] at *; assumption, _, _, ?_, ?_, ?_, ?_, ?_, ?_, rfl⟩) (by assumption) (cb_drop (by assumption) (fun p hp => by simp only [List.mem_cons]; simp [hp]))
    all_goals assumption
end Mine
end
section
open PySem PySem.W PySem.Spec PySem.Calls PyProof.Rows
set_option Elab.async false
set_option maxRecDepth 100000
set_option maxHeartbeats 8000000
namespace Mine
/-- back in a caller whose ground may have turned (frames' slots alone) -/
structure Back (w : World) (mean : ExcName → Option Value) (mg mb : Str → Option Value) (A₀ : Around) (base : Heap) (outer : List Env) (h₀ : Heap) (L : Addr) (m : Str → Option Value) (h₀' h' : Heap) (nw : List (Addr × Obj)) : Prop where
  turn : KtsTurn (outer.filterMap (·.frame)) h₀ h₀'
  fr : Fr h₀' L h' m
  news : News h₀' L h' nw
  below : Below A₀ base outer h₀'
  k : (hd.heap_39 w.params).In h₀'
  top : Top vw LS mean mg mb h₀'
  dicts : KtsDicts (outer.filterMap (·.frame)) h₀'
/-- a contract of a def that may catch -/
abbrev ConT (w : World) (d : Nat) (f : Addr) (vs : List Value) (news : List (Addr × Obj))
    (Ret : (Heap → Heap → List (Addr × Obj) → Prop) → Shared → (Value → Shared → Prop) → Prop) : Prop :=
  ∀ (mean : ExcName → Option Value) (mg mb : Str → Option Value) (dp un : Nat) (gd : Option (List Code)) (cn : Str) (cs : Scope) (a : Addr) (ccd : Value) (cl : List (Str × Addr)) (outer : List Env) (A₀ : Around) (base h₀ : Heap) (L : Addr) (m : Str → Option Value) (s : Shared) (Q E : Value → Shared → Prop),
    Below A₀ base outer h₀ → Fr h₀ L s.heap m → (hd.heap_39 w.params).In h₀ → News h₀ L s.heap news → Top vw LS mean mg mb h₀ → cs.kind = .function →
    (hd.heap_39 w.params).In base → Top vw LS mean mg mb base → KtsDicts (outer.filterMap (·.frame)) h₀ →
    dp + d < recursionLimit → un + 8 * d < cLine → Ret (Back w mean mg mb A₀ base outer h₀ L m) s Q →
    wpAny (model PySem.Challenge.rw_kh0009_01.row.prog w) (ktrTop dp un gd cn cs L a ccd cl outer) (call (.ref f) vs) Q E s
def LeaveT (w : World) (mean : ExcName → Option Value) (mg mb : Str → Option Value) (A₀ : Around) (base : Heap) (outer : List Env) (h₀ : Heap) (L : Addr) (m : Str → Option Value) (fs : List Addr) (g : Heap) (R : Result → Shared → Prop) (v : Value) (s' : Shared) : Prop :=
  ∃ g' L' m' news', KtsTurn fs g g' ∧ Fr g' L' s'.heap m' ∧ News g' L' s'.heap news' ∧ (∀ h₀', Back w mean mg mb A₀ base outer h₀ L m h₀' s'.heap news' → R (.ok (.ret v)) s')
theorem leaveT_ {w : World} {mean : ExcName → Option Value} {mg mb : Str → Option Value} {A₀ : Around} {base : Heap} {outer : List Env} {h₀ : Heap} {L : Addr} {m : Str → Option Value} {fs : List Addr} {g g' : Heap} {L' : Addr} {m' : Str → Option Value} {news' : List (Addr × Obj)} {R : Result → Shared → Prop} {v : Value} {s' : Shared}
    (F' : Fr g' L' s'.heap m') (N' : News g' L' s'.heap news') (T : KtsTurn fs g g') (k : ∀ h₀', Back w mean mg mb A₀ base outer h₀ L m h₀' s'.heap news' → R (.ok (.ret v)) s') : LeaveT w mean mg mb A₀ base outer h₀ L m fs g R v s' := ⟨g', L', m', news', T, F', N', k⟩

section
variable {w : World} {A₀ A : Around} {s : Shared} {base h₀ : Heap} {outer : List Env} {L : Addr} {m : Str → Option Value} {env : Env} {news : List (Addr × Obj)} {mean : ExcName → Option Value} {mg mb : Str → Option Value}
    {R : Result → Shared → Prop} {name qual : Str} {params : Arguments} {body : List Stmt} {scope : Scope} {dV kV doc pm cdv ct oc : Value} {an od : Option Addr} {osl : Array (Option Value)} {f : Addr} {args : Args} {binds : List (Str × Value)} {prog : Program}
theorem enterT (B : Below A₀ base outer h₀) (F : Fr h₀ L s.heap m) (X₀ : (hd.heap_39 w.params).In h₀) (N : News h₀ L s.heap news) (T : Top vw LS mean mg mb h₀)
    (XB : (hd.heap_39 w.params).In base) (TB : Top vw LS mean mg mb base) (D : KtsDicts (outer.filterMap (·.frame)) h₀)
    (hA : A.frames = some (env :: outer)) (hf : env.frame = some L) (hke : env.scope.kind = .function)
    (ho : (hd.heap_39 w.params).lookup f = some ⟨oc, od, .func (fnOf name qual params body scope dV kV doc pm an cdv ct), osl⟩) (hcd : codeIn (hd.heap_39 w.params) cdv qual = true) (hroom : A.depth < recursionLimit)
    (hbind : BindsTo s (fnOf name qual params body scope dV kV doc pm an cdv ct) args binds) (hloc : ∀ y ∈ binds, scope.names.lookup y.1 = some .local)
    (h : ∀ g L' h₁, Fr h₀ L g m → Fr g L' h₁ (fun y => binds.reverse.lookup y) → News g L' h₁ news → Below A base (env :: outer) g → (hd.heap_39 w.params).In g → Top vw LS mean mg mb g → KtsDicts ((env :: outer).filterMap (·.frame)) g →
      wpAny (model prog w) (A.deeper (envOf qual scope L' f cdv)) (execs body (envOf qual scope L' f cdv))
        (fun fl s' => LeaveT w mean mg mb A₀ base outer h₀ L m ((env :: outer).filterMap (·.frame)) g R (match fl with | .ret v => v | _ => .none) s')
        (fun e s' => wpAny (model prog w) (A.deeper (envOf qual scope L' f cdv)) (leaving (envOf qual scope L' f cdv) e) (fun _ s'' => R (.error e) s'') (fun e' s'' => R (.error e') s'') s')
        { s with heap := h₁, toks := s.toks + binds.length })
    (hco : scope.isCoroutine = false) (hgen : scope.isGenerator = false) (hk : scope.kind = .function)
    (hcell : ∀ x ∈ scope.names, x.2 ≠ .cell) : codeAny (model prog w) A (.call (.ref f) args) R s := by
  have X := X₀.keeps F.keep
  obtain ⟨FG, BG, st, _⟩ := groundX (R := R) B F N hA hf hke
  have hfs : (env :: outer).filterMap (·.frame) = L :: outer.filterMap (·.frame) := by simp only [List.filterMap_cons, hf]
  obtain ⟨oL, es, ep, hLg, hLd, hLk, hLf⟩ := FG.ns
  refine codeAny_call_def (fd := fnOf name qual params body scope dV kV doc pm an cdv ct) (body := body) (binds := binds) hroom (X _ _ ho) rfl (T.nolimit.keeps F.keep) (codeRec_of X hcd) rfl hbind hcell hloc (fun h₁ hns hk₁ => ?_) hco hgen hk
  refine wpAny_mono (h _ s.heap.objs.size h₁ FG ⟨hns, fun b o e => hk₁ b o (of_hideAll _ e), Nat.le_of_eq (hideAll_size _ _)⟩
    (fun p hp => ⟨hk₁ _ _ (N p hp).1, Nat.ne_of_lt (Heap.lt_size (N p hp).1), hideAll_none _ (List.mem_map_of_mem hp)⟩) BG (X₀.keeps st) (T.keeps st) (fun b hb => by
      rw [hfs] at hb
      rcases List.mem_cons.mp hb with rfl | hb
      · exact ⟨oL, es, ep, hLg, hLd⟩
      · obtain ⟨o, es', n', ho', hd'⟩ := D b hb
        exact ⟨o, es', n', st b o ho', hd'⟩)) (fun fl s' hl => ?_) fun _ _ y => y
  have nL₀ : h₀.get? L = none := kts_self F
  obtain ⟨g', L', m', news', T', F', N', k⟩ := hl
  rw [hfs] at T'
  obtain ⟨sl, hs⟩ := T'.up hLg
  obtain ⟨T₁, S₁⟩ := kts_turn_at (h := s'.heap) (fs := outer.filterMap (·.frame)) (g := h₀)
    (fun b hb => by
      obtain ⟨_, o, ho', _⟩ := B.frames.mem hb
      exact ⟨o, ho'⟩)
    (fun b o e nmem => F'.keep b o (T'.other b o (st b o e) (fun q => by
      rcases List.mem_cons.mp q with z | z
      · rw [z, nL₀] at e
        cases e
      · exact nmem z)))
    (fun b o e _ => by
      obtain ⟨sl', hs'⟩ := T'.up (st b o e)
      exact ⟨sl', F'.keep _ _ hs'⟩)
  have B₃ : Below A₀ base outer (ktsHeap s'.heap (outer.filterMap (·.frame)) h₀) := ⟨B.stack, fun b o e => T₁.other b o (B.stays b o e) (fun hm => by
    rw [(B.frames.mem hm).1] at e
    cases e), B.frames.of_keeps fun b o e _ => by
    obtain ⟨sl', hs'⟩ := T₁.up e
    exact ⟨_, hs', rfl⟩⟩
  refine k _ ⟨T₁, ⟨⟨{ oL with slots := sl }, es, ep, F'.keep _ _ hs, hLd, hLk, hLf⟩, S₁, by rw [T₁.size]; exact F.above⟩, fun p hp => ⟨(N' p hp).1, fun q => ?_, ?_⟩, B₃, XB.keeps B₃.stays, TB.keeps B₃.stays, D.turn T₁⟩
  · have := (N' p hp).2.2; rw [q, hs] at this; cases this
  · refine T₁.none_ _ ?_
    cases q : h₀.get? p.1 with
    | none => rfl
    | some o =>
      obtain ⟨sl', hs'⟩ := T'.up (st _ _ q)
      have := (N' p hp).2.2
      rw [hs'] at this
      cases this
end
/-- of a caller right above the base: nothing has turned -/
theorem Back.flat {w : World} {mean : ExcName → Option Value} {mg mb : Str → Option Value} {A₀ : Around} {base : Heap} {h₀ : Heap} {L : Addr} {m : Str → Option Value} {h₀' h' : Heap} {nw : List (Addr × Obj)} (b : Back w mean mg mb A₀ base [] h₀ L m h₀' h' nw) :
    Fr h₀ L h' m ∧ News h₀ L h' nw := by
  refine ⟨⟨b.fr.ns, fun c o e => b.fr.keep c o (b.turn.other c o e (fun q => by simp at q)), by rw [← b.turn.size]; exact b.fr.above⟩, fun p hp => ⟨(b.news p hp).1, (b.news p hp).2.1, ?_⟩⟩
  cases q : h₀.get? p.1 with
  | none => rfl
  | some o =>
    have := b.turn.other p.1 o q (fun q => by simp at q)
    rw [(b.news p hp).2.2] at this
    cases this
theorem ConT.use {w : World} {d : Nat} {f : Addr} {vs : List Value} {news : List (Addr × Obj)} {Ret : (Heap → Heap → List (Addr × Obj) → Prop) → Shared → (Value → Shared → Prop) → Prop} (h : ConT w d f vs news Ret)
    {mean : ExcName → Option Value} {mg mb : Str → Option Value} {dp un : Nat} {gd : Option (List Code)} {cn : Str} {cs : Scope} {a : Addr} {ccd : Value} {cl : List (Str × Addr)} {outer : List Env} {A₀ : Around} {base h₀ : Heap} {L : Addr} {m : Str → Option Value} {s : Shared} {Q E : Value → Shared → Prop}
    (B : Below A₀ base outer h₀) (F : Fr h₀ L s.heap m) (X : (hd.heap_39 w.params).In h₀) (N : News h₀ L s.heap news) (T : Top vw LS mean mg mb h₀) (hk : cs.kind = .function)
    (XB : (hd.heap_39 w.params).In base) (TB : Top vw LS mean mg mb base) (D : KtsDicts (outer.filterMap (·.frame)) h₀)
    (hdp : dp + d < recursionLimit) (hun : un + 8 * d < cLine) (hret : Ret (Back w mean mg mb A₀ base outer h₀ L m) s Q) :
    wpAny (model PySem.Challenge.rw_kh0009_01.row.prog w) (ktrTop dp un gd cn cs L a ccd cl outer) (call (.ref f) vs) Q E s :=
  h _ _ _ _ _ _ _ _ _ _ _ _ _ _ _ _ _ _ _ _ B F X N T hk XB TB D hdp hun hret
end Mine
end
section
open PySem PySem.W PySem.Spec PySem.Calls PyProof.Rows
set_option Elab.async false
set_option maxRecDepth 100000
set_option maxHeartbeats 8000000
namespace Mine
theorem gives_pow3 (a : Int) (t : Tok) (b : Int) (u : Tok) (c : Int) (v : Tok) (hc0 : ¬(c == 0) = true) (hc1 : ¬(c.natAbs == 1) = true) (hc2 : ¬ b < 0) (hc3 : ¬ c < 0) :
    Gives (Builtin.«int.__pow__» ⟨[.int a t, .int b u, .int c v], []⟩) (.int (Builtin.powMod (a % (c.natAbs : Int)).toNat b.natAbs c.natAbs)) :=
  .of_wp fun M A E s Q h => by
    obtain ⟨hp, g, d, tk, os⟩ := s
    wp_walk
    refine ⟨_, rfl, ?_⟩
    rw [if_neg (by simp [hc3])]
    exact h
theorem kind_pow : builtinKind "pow" = none := by decide +kernel
theorem plain_pow : plainId "pow" = true := by decide +kernel
theorem entry_pow : entryFor table "pow" = some Builtin.«pow» := entryFor_of_fast (by kernel_rfl)
theorem args_pow (a b c : Value) : argsOk "pow" ⟨[a, b, c], []⟩ := by unfold argsOk; kernel_rfl
theorem args_int_pow3 (a b c : Value) : argsOk "int.__pow__" ⟨[a, b, c], []⟩ := by unfold argsOk; kernel_rfl
section
variable {prog : Program} {w : World} {A : Around} {E : Value → Shared → Prop} {s : Shared} {Q : Value → Shared → Prop}
theorem call_pow3 {a b c : Int} {t u v : Tok} (hb : 0 ≤ b) (hc : 1 < c) (h : Q (.int (Builtin.powMod (a % c).toNat b.toNat c.toNat) s.toks) { s with toks := s.toks + 1 }) :
    wpAny (model prog w) A (call (.builtin "pow") [.int a t, .int b u, .int c v]) Q E s := by
  refine call_function_entry kind_pow plain_pow entry_pow (args_pow _ _ _) ?_
  unfold Builtin.«pow»
  refine wpAny_bind (wpAny_of_eq (show Builtin.Builtins.bindParams "pow" ["base", "exp", "mod"] 2 ⟨[.int a t, .int b u, .int c v], []⟩ = pure [some (.int a t), some (.int b u), some (.int c v)] from rfl) ?_)
  dsimp only [Option.getD]
  refine wpAny_bind (wpAny_rule ?_)
  refine wpAny_bind (wpAny_typeOf (typeIs_int s a t) ?_)
  dsimp only
  refine wpAny_bind (wpAny_of_eq slot_int_pow.lookup ?_)
  dsimp only
  refine wpAny_bind (m := callSpecial? (.int a t) (Str.ofString "__pow__") _) (wpAny_callSpecial?_slot (typeIs_int s a t) slot_int_pow ?_)
  refine call_gives slot_int_pow (typeIs_int s a t) entry_int_pow (args_int_pow3 _ _ _) (gives_pow3 a t b u c v (by simp; omega) (by simp; omega) (by omega) (by omega)) ?_
  have e1 : ((c.natAbs : Nat) : Int) = c := by omega
  have e2 : b.natAbs = b.toNat := by omega
  have e3 : c.natAbs = c.toNat := by omega
  rw [e1, e2, e3]
  show wpAny _ _ (if (_ : Bool) = true then _ else _) _ _ _
  rw [if_pos (by rfl)]
  exact wpAny_pure ⟨_, rfl, h⟩
end
end Mine
end
section
open PySem PySem.W PySem.Spec PySem.Calls PyProof.Rows
set_option Elab.async false
set_option maxRecDepth 100000
set_option maxHeartbeats 8000000
namespace Mine
section
variable {prog : Program} {w : World} {A : Around} {E : Value → Shared → Prop} {s : Shared} {Q : Value → Shared → Prop}
theorem pow_e {a n : Int} {t u : Tok} (hn : 0 ≤ n) (hn' : n ≤ 1000) (ha : Bnd a) (h : Q (.int (a ^ n.toNat) s.toks) { s with toks := s.toks + 1 }) : wpAny (model prog w) A (binaryOp .Pow (.int a t) (.int n u)) Q E s :=
  PyProof.Rows.pow_int hn (by
    have h1 : (Builtin.Int.intBits a : Int) ≤ 400 := by have := ha.bits; omega
    have h2 : (Builtin.Int.intBits a : Int) * n ≤ 400 * 1000 := Int.mul_le_mul h1 hn' hn (by decide)
    have h3 : (400 : Int) * 1000 ≤ 2 ^ 27 := by decide
    omega) h
theorem pow_lit {a n k : Int} {t u : Tok} (hn : 0 ≤ n) (hn' : n ≤ 1000) (ha : Bnd a) (hk : k = a ^ n.toNat) (h : Q (.int k s.toks) { s with toks := s.toks + 1 }) : wpAny (model prog w) A (binaryOp .Pow (.int a t) (.int n u)) Q E s :=
  pow_e hn hn' ha (by rw [← hk]; exact h)
theorem bnd2 : Bnd 2 := by unfold Bnd; omega
theorem shr_e {a n k : Int} {t u : Tok} (hn : 0 ≤ n) (hk : k = 2 ^ n.toNat) (h : Q (.int (a / k) s.toks) { s with toks := s.toks + 1 }) : wpAny (model prog w) A (binaryOp .RShift (.int a t) (.int n u)) Q E s := by
  have h' : Q (.int (a.fdiv (2 ^ n.toNat)) s.toks) { s with toks := s.toks + 1 } := by
    rw [Int.fdiv_eq_ediv_of_nonneg _ (by rw [← hk]; rw [hk]; exact Int.le_of_lt (Int.pow_pos (by decide))), ← hk]
    exact h
  exact rshift_int hn h'
theorem and1_e {a : Int} {t u : Tok} (ha : 0 ≤ a) (h : Q (.int (a % 2) s.toks) { s with toks := s.toks + 1 }) : wpAny (model prog w) A (binaryOp .BitAnd (.int a t) (.int 1 u)) Q E s := by
  have e : Builtin.bitAnd a 1 = a % 2 := by
    unfold Builtin.bitAnd
    rw [decide_eq_true ha, show decide ((0 : Int) ≤ 1) = true from rfl]
    show ((a.toNat &&& (1 : Int).toNat : Nat) : Int) = a % 2
    rw [show (1 : Int).toNat = 1 from rfl, Nat.and_one_is_mod]
    omega
  exact PyProof.Rows.and_int (by rw [e]; exact h)
end
end Mine
end
section
open PySem
namespace Mine
/-- x^3 + c -/
def sqI (md c v : Int) : Int := (v ^ (3 : Nat) + c) % md
/-- the power by a quarter of the modulus and one -/
def pwI (md s : Int) : Int := ((Builtin.powMod (s % md).toNat ((md + 1) / 4).toNat md.toNat : Nat) : Int)
/-- its square -/
def chkI (md s : Int) : Int := ((Builtin.powMod (pwI md s % md).toNat (Int.toNat 2) md.toNat : Nat) : Int)
/-- decompress_G1 raises -/
def TN (md c z : Int) : Prop := ¬(z / 4925250774549309901534880012517951725634967408808180833493536675530715221437151326426783281860614455100828498788352 = 6 ∧ z % 4925250774549309901534880012517951725634967408808180833493536675530715221437151326426783281860614455100828498788352 = 0) ∧ ((z / 4925250774549309901534880012517951725634967408808180833493536675530715221437151326426783281860614455100828498788352 = 4 ∨ z / 4925250774549309901534880012517951725634967408808180833493536675530715221437151326426783281860614455100828498788352 = 5) → 0 < z % 4925250774549309901534880012517951725634967408808180833493536675530715221437151326426783281860614455100828498788352 → z % 4925250774549309901534880012517951725634967408808180833493536675530715221437151326426783281860614455100828498788352 < md → chkI md (sqI md c (z % 4925250774549309901534880012517951725634967408808180833493536675530715221437151326426783281860614455100828498788352)) ≠ sqI md c (z % 4925250774549309901534880012517951725634967408808180833493536675530715221437151326426783281860614455100828498788352))
/-- decompress_G1 gives the three numbers -/
def TS (md c z X Y Z : Int) : Prop :=
  (z / 4925250774549309901534880012517951725634967408808180833493536675530715221437151326426783281860614455100828498788352 = 6 ∧ z % 4925250774549309901534880012517951725634967408808180833493536675530715221437151326426783281860614455100828498788352 = 0 ∧ X = 1 % md ∧ Y = 1 % md ∧ Z = 0 % md) ∨
  ((z / 4925250774549309901534880012517951725634967408808180833493536675530715221437151326426783281860614455100828498788352 = 4 ∨ z / 4925250774549309901534880012517951725634967408808180833493536675530715221437151326426783281860614455100828498788352 = 5) ∧ 0 < z % 4925250774549309901534880012517951725634967408808180833493536675530715221437151326426783281860614455100828498788352 ∧ z % 4925250774549309901534880012517951725634967408808180833493536675530715221437151326426783281860614455100828498788352 < md ∧ chkI md (sqI md c (z % 4925250774549309901534880012517951725634967408808180833493536675530715221437151326426783281860614455100828498788352)) = sqI md c (z % 4925250774549309901534880012517951725634967408808180833493536675530715221437151326426783281860614455100828498788352) ∧ X = z % 4925250774549309901534880012517951725634967408808180833493536675530715221437151326426783281860614455100828498788352 % md ∧ Z = 1 % md ∧
    ((pwI md (sqI md c (z % 4925250774549309901534880012517951725634967408808180833493536675530715221437151326426783281860614455100828498788352)) * 2 / md = z / 4925250774549309901534880012517951725634967408808180833493536675530715221437151326426783281860614455100828498788352 - 4 ∧ Y = pwI md (sqI md c (z % 4925250774549309901534880012517951725634967408808180833493536675530715221437151326426783281860614455100828498788352)) % md) ∨ (pwI md (sqI md c (z % 4925250774549309901534880012517951725634967408808180833493536675530715221437151326426783281860614455100828498788352)) * 2 / md ≠ z / 4925250774549309901534880012517951725634967408808180833493536675530715221437151326426783281860614455100828498788352 - 4 ∧ Y = (md - pwI md (sqI md c (z % 4925250774549309901534880012517951725634967408808180833493536675530715221437151326426783281860614455100828498788352))) % md)))
section
variable {md c z : Int} (hz : 0 ≤ z ∧ z < 39402006196394479212279040100143613805079739270465446667948293404245721771497210611414266254884915640806627990306816)
include hz
theorem tn10 (a1 : z / 19701003098197239606139520050071806902539869635232723333974146702122860885748605305707133127442457820403313995153408 % 2 = 0) : TN md c z := ⟨by omega, fun _ _ _ => by omega⟩
theorem tn1 (_a1 : z / 19701003098197239606139520050071806902539869635232723333974146702122860885748605305707133127442457820403313995153408 % 2 ≠ 0) (a2 : z % 4925250774549309901534880012517951725634967408808180833493536675530715221437151326426783281860614455100828498788352 = 0) (a3 : ((z / 9850501549098619803069760025035903451269934817616361666987073351061430442874302652853566563721228910201656997576704 % 2 != 0) != true) = true) : TN md c z := by
  have a3' : z / 9850501549098619803069760025035903451269934817616361666987073351061430442874302652853566563721228910201656997576704 % 2 = 0 := by simpa using a3
  exact ⟨by omega, fun _ _ _ => by omega⟩
theorem tn2 (_a1 : z / 19701003098197239606139520050071806902539869635232723333974146702122860885748605305707133127442457820403313995153408 % 2 ≠ 0) (a2 : z % 4925250774549309901534880012517951725634967408808180833493536675530715221437151326426783281860614455100828498788352 = 0) (a4 : z / 4925250774549309901534880012517951725634967408808180833493536675530715221437151326426783281860614455100828498788352 % 2 ≠ 0) : TN md c z := ⟨by omega, fun _ _ _ => by omega⟩
theorem tn4 (_a1 : z / 19701003098197239606139520050071806902539869635232723333974146702122860885748605305707133127442457820403313995153408 % 2 ≠ 0) (a2 : z % 4925250774549309901534880012517951725634967408808180833493536675530715221437151326426783281860614455100828498788352 ≠ 0) (a3 : ((z / 9850501549098619803069760025035903451269934817616361666987073351061430442874302652853566563721228910201656997576704 % 2 != 0) != (z % 4925250774549309901534880012517951725634967408808180833493536675530715221437151326426783281860614455100828498788352 == 0)) = true) : TN md c z := by
  have e : (z % 4925250774549309901534880012517951725634967408808180833493536675530715221437151326426783281860614455100828498788352 == 0) = false := by simpa using a2
  rw [e] at a3
  have a3' : ¬ z / 9850501549098619803069760025035903451269934817616361666987073351061430442874302652853566563721228910201656997576704 % 2 = 0 := by simpa using a3
  exact ⟨by omega, fun _ _ _ => by omega⟩
theorem tn6 (a2 : z % 4925250774549309901534880012517951725634967408808180833493536675530715221437151326426783281860614455100828498788352 ≠ 0) (a5 : md ≤ z % 4925250774549309901534880012517951725634967408808180833493536675530715221437151326426783281860614455100828498788352) : TN md c z := ⟨by omega, fun _ _ _ => by omega⟩
theorem tn7 (a2 : z % 4925250774549309901534880012517951725634967408808180833493536675530715221437151326426783281860614455100828498788352 ≠ 0) (a6 : chkI md (sqI md c (z % 4925250774549309901534880012517951725634967408808180833493536675530715221437151326426783281860614455100828498788352)) ≠ sqI md c (z % 4925250774549309901534880012517951725634967408808180833493536675530715221437151326426783281860614455100828498788352)) : TN md c z := ⟨by omega, fun _ _ _ => a6⟩
theorem ts3 (a1 : z / 19701003098197239606139520050071806902539869635232723333974146702122860885748605305707133127442457820403313995153408 % 2 ≠ 0) (a2 : z % 4925250774549309901534880012517951725634967408808180833493536675530715221437151326426783281860614455100828498788352 = 0) (a3 : ((z / 9850501549098619803069760025035903451269934817616361666987073351061430442874302652853566563721228910201656997576704 % 2 != 0) != true) = false) (a4 : z / 4925250774549309901534880012517951725634967408808180833493536675530715221437151326426783281860614455100828498788352 % 2 = 0) : TS md c z (1 % md) (1 % md) (0 % md) := by
  have a3' : ¬ z / 9850501549098619803069760025035903451269934817616361666987073351061430442874302652853566563721228910201656997576704 % 2 = 0 := by simpa using a3
  exact .inl ⟨by omega, a2, rfl, rfl, rfl⟩
theorem tops (a1 : z / 19701003098197239606139520050071806902539869635232723333974146702122860885748605305707133127442457820403313995153408 % 2 ≠ 0) (a2 : z % 4925250774549309901534880012517951725634967408808180833493536675530715221437151326426783281860614455100828498788352 ≠ 0) (a3 : ((z / 9850501549098619803069760025035903451269934817616361666987073351061430442874302652853566563721228910201656997576704 % 2 != 0) != (z % 4925250774549309901534880012517951725634967408808180833493536675530715221437151326426783281860614455100828498788352 == 0)) = false) : z / 4925250774549309901534880012517951725634967408808180833493536675530715221437151326426783281860614455100828498788352 = 4 ∨ z / 4925250774549309901534880012517951725634967408808180833493536675530715221437151326426783281860614455100828498788352 = 5 := by
  have e : (z % 4925250774549309901534880012517951725634967408808180833493536675530715221437151326426783281860614455100828498788352 == 0) = false := by simpa using a2
  rw [e] at a3
  have a3' : z / 9850501549098619803069760025035903451269934817616361666987073351061430442874302652853566563721228910201656997576704 % 2 = 0 := by simpa using a3
  omega
theorem flagI (h : z / 4925250774549309901534880012517951725634967408808180833493536675530715221437151326426783281860614455100828498788352 = 4 ∨ z / 4925250774549309901534880012517951725634967408808180833493536675530715221437151326426783281860614455100828498788352 = 5) : (if (z / 4925250774549309901534880012517951725634967408808180833493536675530715221437151326426783281860614455100828498788352 % 2 != 0) = true then (1 : Int) else 0) = z / 4925250774549309901534880012517951725634967408808180833493536675530715221437151326426783281860614455100828498788352 - 4 := by
  rcases h with h | h
  · rw [h]; decide
  · rw [h]; decide
theorem ts8 (a1 : z / 19701003098197239606139520050071806902539869635232723333974146702122860885748605305707133127442457820403313995153408 % 2 ≠ 0) (a2 : z % 4925250774549309901534880012517951725634967408808180833493536675530715221437151326426783281860614455100828498788352 ≠ 0) (a3 : ((z / 9850501549098619803069760025035903451269934817616361666987073351061430442874302652853566563721228910201656997576704 % 2 != 0) != (z % 4925250774549309901534880012517951725634967408808180833493536675530715221437151326426783281860614455100828498788352 == 0)) = false) (a5 : ¬ md ≤ z % 4925250774549309901534880012517951725634967408808180833493536675530715221437151326426783281860614455100828498788352)
    (a6 : chkI md (sqI md c (z % 4925250774549309901534880012517951725634967408808180833493536675530715221437151326426783281860614455100828498788352)) = sqI md c (z % 4925250774549309901534880012517951725634967408808180833493536675530715221437151326426783281860614455100828498788352)) (a7 : pwI md (sqI md c (z % 4925250774549309901534880012517951725634967408808180833493536675530715221437151326426783281860614455100828498788352)) * 2 / md ≠ if (z / 4925250774549309901534880012517951725634967408808180833493536675530715221437151326426783281860614455100828498788352 % 2 != 0) = true then 1 else 0) :
    TS md c z (z % 4925250774549309901534880012517951725634967408808180833493536675530715221437151326426783281860614455100828498788352 % md) ((md - pwI md (sqI md c (z % 4925250774549309901534880012517951725634967408808180833493536675530715221437151326426783281860614455100828498788352))) % md) (1 % md) := by
  have h := tops hz a1 a2 a3
  rw [flagI hz h] at a7
  exact .inr ⟨h, by omega, by omega, a6, rfl, rfl, .inr ⟨a7, rfl⟩⟩
theorem ts9 (a1 : z / 19701003098197239606139520050071806902539869635232723333974146702122860885748605305707133127442457820403313995153408 % 2 ≠ 0) (a2 : z % 4925250774549309901534880012517951725634967408808180833493536675530715221437151326426783281860614455100828498788352 ≠ 0) (a3 : ((z / 9850501549098619803069760025035903451269934817616361666987073351061430442874302652853566563721228910201656997576704 % 2 != 0) != (z % 4925250774549309901534880012517951725634967408808180833493536675530715221437151326426783281860614455100828498788352 == 0)) = false) (a5 : ¬ md ≤ z % 4925250774549309901534880012517951725634967408808180833493536675530715221437151326426783281860614455100828498788352)
    (a6 : chkI md (sqI md c (z % 4925250774549309901534880012517951725634967408808180833493536675530715221437151326426783281860614455100828498788352)) = sqI md c (z % 4925250774549309901534880012517951725634967408808180833493536675530715221437151326426783281860614455100828498788352)) (a7 : pwI md (sqI md c (z % 4925250774549309901534880012517951725634967408808180833493536675530715221437151326426783281860614455100828498788352)) * 2 / md = if (z / 4925250774549309901534880012517951725634967408808180833493536675530715221437151326426783281860614455100828498788352 % 2 != 0) = true then 1 else 0) :
    TS md c z (z % 4925250774549309901534880012517951725634967408808180833493536675530715221437151326426783281860614455100828498788352 % md) (pwI md (sqI md c (z % 4925250774549309901534880012517951725634967408808180833493536675530715221437151326426783281860614455100828498788352)) % md) (1 % md) := by
  have h := tops hz a1 a2 a3
  rw [flagI hz h] at a7
  exact .inr ⟨h, by omega, by omega, a6, rfl, rfl, .inl ⟨a7, rfl⟩⟩
end
theorem Back.drop {w : World} {mean : ExcName → Option Value} {mg mb : Str → Option Value} {A₀ : Around} {base : Heap} {outer : List Env} {h₀ : Heap} {L : Addr} {m : Str → Option Value} {h₀' h' : Heap} {nw nw' : List (Addr × Obj)} (b : Back w mean mg mb A₀ base outer h₀ L m h₀' h' nw) (k : ∀ p ∈ nw', p ∈ nw) :
    Back w mean mg mb A₀ base outer h₀ L m h₀' h' nw' := ⟨b.turn, b.fr, fun p hp => b.news p (k p hp), b.below, b.k, b.top, b.dicts⟩
theorem Back.drop7 {w : World} {mean : ExcName → Option Value} {mg mb : Str → Option Value} {A₀ : Around} {base : Heap} {outer : List Env} {h₀ : Heap} {L : Addr} {m : Str → Option Value} {h₀' h' : Heap} {nw : List (Addr × Obj)} {p1 p2 p3 p4 p5 p6 p7 p8 : Addr × Obj} (b : Back w mean mg mb A₀ base outer h₀ L m h₀' h' (p1 :: p2 :: p3 :: p4 :: p5 :: p6 :: p7 :: p8 :: nw)) :
    Back w mean mg mb A₀ base outer h₀ L m h₀' h' (p1 :: p2 :: p3 :: p4 :: p5 :: p6 :: p7 :: nw) := b.drop fun p hp => by
  simp only [List.mem_cons] at *
  rcases hp with h | h | h | h | h | h | h | h <;> simp [h]
theorem Back.drop1 {w : World} {mean : ExcName → Option Value} {mg mb : Str → Option Value} {A₀ : Around} {base : Heap} {outer : List Env} {h₀ : Heap} {L : Addr} {m : Str → Option Value} {h₀' h' : Heap} {nw : List (Addr × Obj)} {p1 : Addr × Obj} (b : Back w mean mg mb A₀ base outer h₀ L m h₀' h' (p1 :: nw)) :
    Back w mean mg mb A₀ base outer h₀ L m h₀' h' nw := b.drop fun p hp => .tail _ hp
end Mine
end
section
open PySem PySem.W PySem.Spec PySem.Calls PyProof.Rows
set_option Elab.async false
set_option maxRecDepth 100000
set_option maxHeartbeats 8000000
namespace Mine
local macro_rules | `(tactic| walk_at "binaryOp Mod int int") => `(tactic| (with_reducible refine mod_e ?kmp ?_; (case kmp => first | assumption | decide | omega | mul_fits)))
local macro_rules | `(tactic| walk_at "inplaceOp Mod int int") => `(tactic| (with_reducible refine imod_e ?kmp ?_; (case kmp => first | assumption | decide | omega | mul_fits)))
local macro_rules | `(tactic| walk_at "binaryOp FloorDiv int int") => `(tactic| (with_reducible refine div_e ?kmp ?kmq ?_; (case kmp => first | assumption | decide | omega | mul_fits); (case kmq => first | assumption | (unfold Bnd; omega) | decide | mul_fits)))
local macro_rules | `(tactic| walk_at "binaryOp Mult int int") => `(tactic| (with_reducible refine mul_e ?kmp ?kmq ?_; (case kmp => first | assumption | mul_fits | (unfold Bnd at *; omega)); (case kmq => first | assumption | mul_fits | (unfold Bnd at *; omega))))
local macro_rules | `(tactic| k_enter) => `(tactic| (refine' code_def ?k1 ?k2 ?k3 ?k4 ?k5 ?kA ?kF ?kK ?k6 ?k7 ?k8 ?k9 ?kB ?_ ?c2 ?c3 ?c4 ?c5; (case kA => exact rfl); (case kF => exact rfl); (case kK => first | exact rfl | assumption); (case k1 => k_asm); (case k2 => k_asm); (case k3 => k_asm); (case k4 => k_asm); (case k5 => k_asm); (case k6 => k_is); (case k7 => k_is); (case k8 => ktr_room); (case k9 => first | exact BindsTo.of_eq rfl | exact binds_K (by k_in) rfl (by k_is) rfl rfl rfl); (case c5 => decide); (case kB => exact locs rfl); (case c2 => exact rfl); (case c3 => exact rfl); (case c4 => exact rfl); k_whole; intro g' L' h' FG' F' N' B' X' T'; (try dsimp only); (try k_lift B'); (try k_fold)))
local macro_rules | `(tactic| walk_at "call ref") => `(tactic| (k_here; k_dflt (refine' Con.use (Tag.out (c_inv _ _ _ _ _ _ ?p1 ?p2 ?p3)) ?k1 ?k2 ?k3 ?k4 ?k5 ?kK ?kd ?ku ?_; (case k1 => k_asm); (case k2 => k_asm); (case k3 => k_asm); (case k4 => k_asm); (case k5 => k_asm); (case kK => first | exact rfl | assumption); (case p1 => first | assumption | omega); (case p2 => assumption); (case p3 => assumption); (case kd => ktr_room); (case ku => ktr_units); k_whole; intro r9 t9 h9 tk9 hr1 hr2 hr3 F9 N9; (try dsimp only [PySem.W.CmpBack]); (try dsimp only); (try k_sweep); (try k_fold))))
local macro_rules | `(tactic| walk_at "call ref") => `(tactic| (k_here; k_dflt (refine' Con.use (Tag.out (c_fq _ _ _ _ _ _ ?p1)) ?k1 ?k2 ?k3 ?k4 ?k5 ?kK ?kd ?ku ?_; (case k1 => k_asm); (case k2 => k_asm); (case k3 => k_asm); (case k4 => k_asm); (case k5 => k_asm); (case kK => first | exact rfl | assumption); (case p1 => first | assumption | omega); (case kd => ktr_room); (case ku => ktr_units); k_whole; intro x9 dx9 t91 t92 u91 u92 h9 tk9 F9 N9 l91 l92; (try k_lt l91); (try k_lt2 l92); (try dsimp only [PySem.W.CmpBack]); (try dsimp only); (try k_sweep); (try k_fold))))

local macro_rules | `(tactic| walk_at "call ref") => `(tactic| (k_here; (with_reducible show wpAny _ _ (call (Value.ref 141) _) _ _ _); k_dflt (refine' Con.use (Tag.out (c_div ?q1 ?q2 ?q3 ?q4 ?p1 ?p2 ?p3 ?p4)) ?k1 ?k2 ?k3 ?k4 ?k5 ?kK ?kd ?ku ?_; (case k1 => k_asm); (case k2 => k_asm); (case k3 => k_asm); (case k4 => k_asm); (case k5 => k_asm); (case kK => first | exact rfl | assumption); (case q1 => k_mem); (case q2 => k_mem); (case q3 => k_mem); (case q4 => k_mem); (case p1 => first | assumption | omega); (case p2 => assumption); (case p3 => first | assumption | exact PrimeI.cop0 (by assumption) (by assumption) (by assumption) | mul_fits); (case p4 => first | assumption | mul_fits); (case kd => ktr_room); (case ku => ktr_units); k_whole; intro r9 hr1 hr2 hr3 x9 dx9 t91 t92 u91 u92 h9 tk9 F9 N9 l91 l92; (try k_lt l91); (try k_lt2 l92); (try dsimp only [PySem.W.CmpBack]); (try dsimp only); (try k_sweep); (try k_fold))))
local macro_rules | `(tactic| mul_fits) => `(tactic| first | exact Bnd.emod (by assumption) (by assumption) | exact Bnd.flag (by assumption))
local macro_rules | `(tactic| k_mem) => `(tactic| ((repeat (with_reducible refine List.mem_cons_of_mem _ ?_)); ktr_member))
local macro_rules | `(tactic| k_units) => `(tactic| ((simp only [units_in1, units_deeper, Around.mark_units]); omega))
local macro_rules | `(tactic| walk_at "binaryOp Div") => `(tactic| (k_here; (with_reducible show wpAny _ _ (binaryOp _ (Value.ref _) (Value.ref _)) _ _ _); k_dflt (refine' binop_K ?k1 ?k2 ?k3 ?k4 ?k5 ?k6 ?k7 ?_; (case k1 => k_asm); (case k2 => k_asm); (case k3 => k_inst); (case k4 => k_typeOf); (case k5 => k_is); (case k6 => k_is); (case k7 => k_is); k_whole)))
local macro_rules | `(tactic| walk_at "call builtin:pow") => `(tactic| ((with_reducible show wpAny _ _ (call (Value.builtin _) [Value.int _ _, Value.int _ _, Value.int _ _]) _ _ _); refine call_pow3 ?kpe ?kpm ?_; (case kpe => first | assumption | omega); (case kpm => first | assumption | omega); (try dsimp only)))
local macro_rules | `(tactic| walk_at "binaryOp Pow int int") => `(tactic| (with_reducible refine pow_e ?kpe ?kpm ?kpb ?_; (case kpe => first | assumption | decide); (case kpm => first | assumption | decide); (case kpb => first | assumption | mul_fits | (unfold Bnd at *; omega))))
local macro_rules | `(tactic| walk_at "binaryOp RShift int int") => `(tactic| first
  | (with_reducible refine shr_e (k := 19701003098197239606139520050071806902539869635232723333974146702122860885748605305707133127442457820403313995153408) ?kpe ?kpm ?_; (case kpe => decide); (case kpm => decide +kernel))
  | (with_reducible refine shr_e (k := 9850501549098619803069760025035903451269934817616361666987073351061430442874302652853566563721228910201656997576704) ?kpe ?kpm ?_; (case kpe => decide); (case kpm => decide +kernel))
  | (with_reducible refine shr_e (k := 4925250774549309901534880012517951725634967408808180833493536675530715221437151326426783281860614455100828498788352) ?kpe ?kpm ?_; (case kpe => decide); (case kpm => decide +kernel)))
local macro_rules | `(tactic| walk_at "binaryOp BitAnd int int") => `(tactic| (with_reducible refine and1_e ?kpe ?_; (case kpe => omega)))
local macro_rules | `(tactic| walk_at "LeaveT") => `(tactic| (k_dflt (refine' leaveT_ ?F ?N ?T ?_; (case F => k_asm); (case N => k_asm); (case T => first | assumption | exact KtsTurn.refl); k_whole); intro kg9 kB9; (try dsimp only [InitBack, PySem.W.CmpBack])))
theorem c_told {w : World} {md c z : Int} {tz : Tok} {b db : Addr} {t7 t8 u7 u8 : Tok} {news : List (Addr × Obj)}
    (hb : (b, instObj 229 db) ∈ news) (hdb : (db, fqD w md c t7 t8 u7 u8) ∈ news)
    (hp : PrimeI md) (hnB : md < 4925250774549309901534880012517951725634967408808180833493536675530715221437151326426783281860614455100828498788352) (hc : 0 ≤ c ∧ c < md) (hz : 0 ≤ z ∧ z < 39402006196394479212279040100143613805079739270465446667948293404245721771497210611414266254884915640806627990306816) : Tag PySem.Challenge.rw_kh0009_01 hd.heap_39
    (ConT w 10 252 [.int z tz, .ref b] news fun Bk s Q =>
      (∀ (h₀' h' : Heap) (tk' : Nat), TN md c z → Bk h₀' h' news → Q .none { s with heap := h', toks := tk' }) ∧
      (∀ (h₀' h' : Heap) (tk' : Nat) (X Y Z : Int) (D x dx y dy v dv : Addr) (t1 t2 u1 u2 t3 t4 u3 u4 t5 t6 u5 u6 : Tok), TS md c z X Y Z →
        Bk h₀' h' ((D, ({ cls := .type "tuple", data := .seq #[.ref x, .ref y, .ref v] } : Obj)) :: (v, instObj 229 dv) :: (dv, fqD w md Z t5 t6 u5 u6) :: (y, instObj 229 dy) :: (dy, fqD w md Y t3 t4 u3 u4) :: (x, instObj 229 dx) :: (dx, fqD w md X t1 t2 u1 u2) :: news) →
        Q (.ref D) { s with heap := h', toks := tk' })) := by
  w_top off
  k_with_none
  k_fill
  unfold Tag
  intro mean mg mb dp un gd cn cs a1 ccd cl outer A₀ base h₀ L m s Q E B F X1 N T hk XB TB DD hdp hun hret
  have hn1 : 1 < md := hp.1
  have hB1 : Bnd md := by unfold Bnd; omega
  refine wpAny_call ?_
  k_dflt (refine' enterT ?k1 ?k2 ?k3 ?k4 ?k5 ?XB ?TB ?D ?kA ?kF ?kK ?k6 ?k7 ?k8 ?k9 ?kB ?_ ?c2 ?c3 ?c4 ?c5; (case kA => exact rfl); (case kF => exact rfl); (case kK => first | exact rfl | assumption); (case k1 => k_asm); (case k2 => k_asm); (case k3 => k_asm); (case k4 => k_asm); (case k5 => k_asm); (case XB => assumption); (case TB => assumption); (case D => assumption); (case k6 => k_is); (case k7 => k_is); (case k8 => ktr_room); (case k9 => exact BindsTo.of_eq rfl); (case c5 => decide); (case kB => exact locs rfl); (case c2 => exact rfl); (case c3 => exact rfl); (case c4 => exact rfl); k_whole; intro g' L' h' FG' F' N' B' X' T' D'; (try dsimp only); (try k_fold))
  k_steps
  · exact hret.1 _ _ _ (tn1 hz (by assumption) (by assumption) (by assumption)) (Back.drop1 (by assumption))
  · exact hret.1 _ _ _ (tn2 hz (by assumption) (by assumption) (by assumption)) (Back.drop1 (by assumption))
  · exact hret.2 _ _ _ _ _ _ _ _ _ _ _ _ _ _ _ _ _ _ _ _ _ _ _ _ _ (ts3 hz (by assumption) (by assumption) (by assumption) (by assumption)) (Back.drop7 (by assumption))
  · exact hret.1 _ _ _ (tn4 hz (by assumption) (by assumption) (by assumption)) (Back.drop1 (by assumption))
  · exact absurd (by assumption) (by assumption : ¬ z % 4925250774549309901534880012517951725634967408808180833493536675530715221437151326426783281860614455100828498788352 = 0)
  · exact hret.1 _ _ _ (tn6 hz (by assumption) (by assumption)) (Back.drop1 (by assumption))
  · exact hret.1 _ _ _ (tn7 hz (by assumption) (by assumption)) (Back.drop1 (by assumption))
  · exact hret.2 _ _ _ _ _ _ _ _ _ _ _ _ _ _ _ _ _ _ _ _ _ _ _ _ _ (ts8 hz (by assumption) (by assumption) (by assumption) (by assumption) (by assumption) (by assumption)) (Back.drop7 (by assumption))
  · exact hret.2 _ _ _ _ _ _ _ _ _ _ _ _ _ _ _ _ _ _ _ _ _ _ _ _ _ (ts9 hz (by assumption) (by assumption) (by assumption) (by assumption) (by assumption) (by assumption)) (Back.drop7 (by assumption))
  · exact hret.1 _ _ _ (tn10 hz (by assumption)) (Back.drop1 (by assumption))
end Mine
end
section
open PySem PySem.W PySem.Spec PySem.Calls PyProof.Rows
set_option Elab.async false
set_option maxRecDepth 100000
set_option maxHeartbeats 8000000
namespace Mine
local macro_rules | `(tactic| walk_at "binaryOp Mod int int") => `(tactic| (with_reducible refine mod_e ?kmp ?_; (case kmp => first | assumption | decide | omega | mul_fits)))
local macro_rules | `(tactic| walk_at "inplaceOp Mod int int") => `(tactic| (with_reducible refine imod_e ?kmp ?_; (case kmp => first | assumption | decide | omega | mul_fits)))
local macro_rules | `(tactic| walk_at "binaryOp FloorDiv int int") => `(tactic| (with_reducible refine div_e ?kmp ?kmq ?_; (case kmp => first | assumption | decide | omega | mul_fits); (case kmq => first | assumption | (unfold Bnd; omega) | decide | mul_fits)))
local macro_rules | `(tactic| walk_at "binaryOp Mult int int") => `(tactic| (with_reducible refine mul_e ?kmp ?kmq ?_; (case kmp => first | assumption | mul_fits | (unfold Bnd at *; omega)); (case kmq => first | assumption | mul_fits | (unfold Bnd at *; omega))))
local macro_rules | `(tactic| k_enter) => `(tactic| (refine' code_def ?k1 ?k2 ?k3 ?k4 ?k5 ?kA ?kF ?kK ?k6 ?k7 ?k8 ?k9 ?kB ?_ ?c2 ?c3 ?c4 ?c5; (case kA => exact rfl); (case kF => exact rfl); (case kK => first | exact rfl | assumption); (case k1 => k_asm); (case k2 => k_asm); (case k3 => k_asm); (case k4 => k_asm); (case k5 => k_asm); (case k6 => k_is); (case k7 => k_is); (case k8 => ktr_room); (case k9 => first | exact BindsTo.of_eq rfl | exact binds_K (by k_in) rfl (by k_is) rfl rfl rfl); (case c5 => decide); (case kB => exact locs rfl); (case c2 => exact rfl); (case c3 => exact rfl); (case c4 => exact rfl); k_whole; intro g' L' h' FG' F' N' B' X' T'; (try dsimp only); (try k_lift B'); (try k_fold)))
local macro_rules | `(tactic| walk_at "call ref") => `(tactic| (k_here; k_dflt (refine' Con.use (Tag.out (c_inv _ _ _ _ _ _ ?p1 ?p2 ?p3)) ?k1 ?k2 ?k3 ?k4 ?k5 ?kK ?kd ?ku ?_; (case k1 => k_asm); (case k2 => k_asm); (case k3 => k_asm); (case k4 => k_asm); (case k5 => k_asm); (case kK => first | exact rfl | assumption); (case p1 => first | assumption | omega); (case p2 => assumption); (case p3 => assumption); (case kd => ktr_room); (case ku => ktr_units); k_whole; intro r9 t9 h9 tk9 hr1 hr2 hr3 F9 N9; (try dsimp only [PySem.W.CmpBack]); (try dsimp only); (try k_sweep); (try k_fold))))
local macro_rules | `(tactic| walk_at "call ref") => `(tactic| (k_here; k_dflt (refine' Con.use (Tag.out (c_fq _ _ _ _ _ _ ?p1)) ?k1 ?k2 ?k3 ?k4 ?k5 ?kK ?kd ?ku ?_; (case k1 => k_asm); (case k2 => k_asm); (case k3 => k_asm); (case k4 => k_asm); (case k5 => k_asm); (case kK => first | exact rfl | assumption); (case p1 => first | assumption | omega); (case kd => ktr_room); (case ku => ktr_units); k_whole; intro x9 dx9 t91 t92 u91 u92 h9 tk9 F9 N9 l91 l92; (try k_lt l91); (try k_lt2 l92); (try dsimp only [PySem.W.CmpBack]); (try dsimp only); (try k_sweep); (try k_fold))))

local macro_rules | `(tactic| walk_at "call ref") => `(tactic| (k_here; (with_reducible show wpAny _ _ (call (Value.ref 141) _) _ _ _); k_dflt (refine' Con.use (Tag.out (c_div ?q1 ?q2 ?q3 ?q4 ?p1 ?p2 ?p3 ?p4)) ?k1 ?k2 ?k3 ?k4 ?k5 ?kK ?kd ?ku ?_; (case k1 => k_asm); (case k2 => k_asm); (case k3 => k_asm); (case k4 => k_asm); (case k5 => k_asm); (case kK => first | exact rfl | assumption); (case q1 => k_mem); (case q2 => k_mem); (case q3 => k_mem); (case q4 => k_mem); (case p1 => first | assumption | omega); (case p2 => assumption); (case p3 => first | assumption | exact PrimeI.cop0 (by assumption) (by assumption) (by assumption) | mul_fits); (case p4 => first | assumption | mul_fits); (case kd => ktr_room); (case ku => ktr_units); k_whole; intro r9 hr1 hr2 hr3 x9 dx9 t91 t92 u91 u92 h9 tk9 F9 N9 l91 l92; (try k_lt l91); (try k_lt2 l92); (try dsimp only [PySem.W.CmpBack]); (try dsimp only); (try k_sweep); (try k_fold))))
local macro_rules | `(tactic| mul_fits) => `(tactic| first | exact Bnd.emod (by assumption) (by assumption) | exact Bnd.flag (by assumption))
local macro_rules | `(tactic| k_mem) => `(tactic| ((repeat (with_reducible refine List.mem_cons_of_mem _ ?_)); ktr_member))
local macro_rules | `(tactic| k_units) => `(tactic| ((simp only [units_in1, units_deeper, Around.mark_units]); omega))
local macro_rules | `(tactic| walk_at "binaryOp Div") => `(tactic| (k_here; (with_reducible show wpAny _ _ (binaryOp _ (Value.ref _) (Value.ref _)) _ _ _); k_dflt (refine' binop_K ?k1 ?k2 ?k3 ?k4 ?k5 ?k6 ?k7 ?_; (case k1 => k_asm); (case k2 => k_asm); (case k3 => k_inst); (case k4 => k_typeOf); (case k5 => k_is); (case k6 => k_is); (case k7 => k_is); k_whole)))
local macro_rules | `(tactic| walk_at "call builtin:pow") => `(tactic| ((with_reducible show wpAny _ _ (call (Value.builtin _) [Value.int _ _, Value.int _ _, Value.int _ _]) _ _ _); refine call_pow3 ?kpe ?kpm ?_; (case kpe => first | assumption | omega); (case kpm => first | assumption | omega); (try dsimp only)))
local macro_rules | `(tactic| walk_at "binaryOp Pow int int") => `(tactic| (with_reducible refine pow_e ?kpe ?kpm ?kpb ?_; (case kpe => first | assumption | decide); (case kpm => first | assumption | decide); (case kpb => first | assumption | mul_fits | (unfold Bnd at *; omega))))
local macro_rules | `(tactic| walk_at "binaryOp RShift int int") => `(tactic| first
  | (with_reducible refine shr_e (k := 19701003098197239606139520050071806902539869635232723333974146702122860885748605305707133127442457820403313995153408) ?kpe ?kpm ?_; (case kpe => decide); (case kpm => decide +kernel))
  | (with_reducible refine shr_e (k := 9850501549098619803069760025035903451269934817616361666987073351061430442874302652853566563721228910201656997576704) ?kpe ?kpm ?_; (case kpe => decide); (case kpm => decide +kernel))
  | (with_reducible refine shr_e (k := 4925250774549309901534880012517951725634967408808180833493536675530715221437151326426783281860614455100828498788352) ?kpe ?kpm ?_; (case kpe => decide); (case kpm => decide +kernel)))
local macro_rules | `(tactic| walk_at "binaryOp BitAnd int int") => `(tactic| (with_reducible refine and1_e ?kpe ?_; (case kpe => omega)))
local macro_rules | `(tactic| walk_at "LeaveT") => `(tactic| (k_dflt (refine' leaveT_ ?F ?N ?T ?_; (case F => k_asm); (case N => k_asm); (case T => first | assumption | exact KtsTurn.refl); k_whole); intro kg9 kB9; (try dsimp only [InitBack, PySem.W.CmpBack])))
local macro_rules | `(tactic| walk_at "binaryOp Pow int int") => `(tactic| ((with_reducible show wpAny _ _ (binaryOp _ (Value.int 2 _) (Value.int _ _)) _ _ _); first
  | (with_reducible refine pow_lit (k := 4925250774549309901534880012517951725634967408808180833493536675530715221437151326426783281860614455100828498788352) ?kpe ?kpm bnd2 ?kpk ?_; (case kpe => decide); (case kpm => decide); (case kpk => decide +kernel))
  | (with_reducible refine pow_lit (k := 39402006196394479212279040100143613805079739270465446667948293404245721771497210611414266254884915640806627990306816) ?kpe ?kpm bnd2 ?kpk ?_; (case kpe => decide); (case kpm => decide); (case kpk => decide +kernel))))
theorem c_drawn {w : World} {md r : Int} {tr tm : Tok} {news : List (Addr × Obj)} (hn1 : 1 < md) (hnB : md < 4925250774549309901534880012517951725634967408808180833493536675530715221437151326426783281860614455100828498788352) : Tag PySem.Challenge.rw_kh0009_01 hd.heap_39
    (Con w 3 245 [.int r tr, .int md tm] news fun h₀ L m s Q =>
      ∀ (v : Int) (t : Tok) (h' : Heap) (tk' : Nat), (0 ≤ v ∧ v < 39402006196394479212279040100143613805079739270465446667948293404245721771497210611414266254884915640806627990306816) → Fr h₀ L h' m → News h₀ L h' news → Q (.int v t) { s with heap := h', toks := tk' }) := by
  w_top off
  k_with_none
  k_fill
  unfold Tag
  intro mean mg mb dp un gd cn cs a1 ccd cl outer A₀ base h₀ L m s Q E B F X1 N T hk hdp hun hret
  have hB1 : Bnd md := by unfold Bnd; omega
  refine wpAny_call ?_
  k_dflt cell_enter
  k_steps
  all_goals (
    have e1 : 0 ≤ r / 6 / 4 % md := Int.emod_nonneg _ (by omega)
    have e2 : r / 6 / 4 % md < md := Int.emod_lt_of_pos _ (by omega)
    refine hret _ _ _ _ ?_ (by assumption) ?_
    · omega
    · first | assumption | exact cb_drop (by assumption) (fun p hp => .tail _ hp) | exact cb_drop (by assumption) (fun p hp => .tail _ (.tail _ hp)) | exact cb_drop (by assumption) (fun p hp => .tail _ (.tail _ (.tail _ hp))))
end Mine
end
section
open PySem PySem.W PySem.Spec PySem.Calls PyProof.Rows
set_option Elab.async false
set_option maxRecDepth 100000
set_option maxHeartbeats 8000000
namespace Mine
def Hold (P : Prop) : Prop := P
theorem Hold.out {P : Prop} (h : Hold P) : P := h
theorem Hold.mk {P : Prop} (h : P) : Hold P := h
section
variable {prog : Program} {w : World} {A : Around} {E : Value → Shared → Prop} {Q : Flow → Shared → Prop} {s : Shared} {env : Env} {g : Heap} {L : Addr}
/-- a turn's end: the cell holds the next number -/
def CellEnd (g : Heap) (L : Addr) (s : Shared) (m : Str → Option Value) (c : Addr) (news : List (Addr × Obj)) (P : Int → Prop) (μ : Int → Nat) (v : Int) (s₃ : Shared) : Prop :=
  ∃ v' t' o' h' tk' nx, s₃ = { s with heap := h', toks := tk' } ∧ Fr g L h' m ∧ News g L h' nx ∧ (c, o') ∈ nx ∧ (∀ p ∈ news, p ∈ nx) ∧ o'.data = .cell (some (.int v' t')) ∧ P v' ∧ μ v' < μ v
def CellPost (g : Heap) (L : Addr) (s : Shared) (m : Str → Option Value) (c : Addr) (news : List (Addr × Obj)) (P : Int → Prop) (μ : Int → Nat) (Q : Flow → Shared → Prop) (v : Int) (f : Flow) (s₃ : Shared) : Prop :=
  match f with
  | .ret u => Q (.ret u) s₃
  | .brk => Q .next s₃
  | _ => CellEnd g L s m c news P μ v s₃
theorem while_cell {test : Expr} {body : List Stmt} {pos : Pos} {m : Str → Option Value} {c : Addr} {o : Obj} {news : List (Addr × Obj)} {v : Int} {t : Tok} (P : Int → Prop) (μ : Int → Nat)
    (F : Fr g L s.heap m) (N : News g L s.heap ((c, o) :: news)) (ho : o.data = .cell (some (.int v t))) (hP : P v)
    (turn : ∀ v t o h tk, P v → o.data = .cell (some (.int v t)) → Fr g L h m → News g L h ((c, o) :: news) →
      wpAny (model prog w) A (isTrue test env (eval test env)) (fun b s₂ => if b = true then wpAny (model prog w) A (execs body env) (CellPost g L s m c news P μ Q v) E s₂ else Q .next s₂) E { s with heap := h, toks := tk })
    (hE : PassesOwn (model prog w) A env E := by passes_own) :
    wpAny (model prog w) A (exec (.While test body [] pos) env) Q E s := by
  refine While_inv2 (fun n m₁ nx => m₁ = m ∧ ∃ v t o, nx = (c, o) :: news ∧ o.data = .cell (some (.int v t)) ∧ P v ∧ μ v = n) (n₀ := μ v) F N ⟨rfl, v, t, o, rfl, ho, hP, rfl⟩ ?_ hE
  rintro n m₁ nx h tk F₁ N₁ ⟨rfl, v, t, o, rfl, ho, hP, rfl⟩
  refine wpAny_mono (turn v t o h tk hP ho F₁ N₁) (fun b s₂ p => ?_) fun _ _ x => x
  cases b with
  | false => simpa using p
  | true =>
    simp only [if_true] at p ⊢
    refine wpAny_mono p (fun f s₃ q => ?_) fun _ _ x => x
    cases f with
    | ret v => exact q
    | brk => exact q
    | next =>
      obtain ⟨v', t', o', h', tk', nx, rfl, F', N', hm, hn, ho', hP', hμ⟩ := q
      exact ⟨h', tk', _, (c, o') :: news, _, rfl, F', fun p hp => (List.mem_cons.mp hp).elim (fun e => N' p (e ▸ hm)) (fun e => N' p (hn p e)), hμ, rfl, v', t', o', rfl, ho', hP', rfl⟩
    | cont =>
      obtain ⟨v', t', o', h', tk', nx, rfl, F', N', hm, hn, ho', hP', hμ⟩ := q
      exact ⟨h', tk', _, (c, o') :: news, _, rfl, F', fun p hp => (List.mem_cons.mp hp).elim (fun e => N' p (e ▸ hm)) (fun e => N' p (hn p e)), hμ, rfl, v', t', o', rfl, ho', hP', rfl⟩
end
end Mine
end
section
open PySem PySem.W PySem.Spec PySem.Calls PyProof.Rows
set_option Elab.async false
set_option maxRecDepth 100000
set_option maxHeartbeats 8000000
namespace Mine
open LCg LCt
section
variable {prog : Program} {w : World} {A : Around} {E : Value → Shared → Prop} {s : Shared} {h₀ : Heap} {L : Addr} {m : Str → Option Value} {env : Env}
/-- a comprehension with one test over a range, whatever its step -/
def CompSrcS (prog : Program) (w : World) (A : Around) (h₀ : Heap) (L : Addr) (m : Str → Option Value) (env : Env) (ct elt : Expr) (x : Str) (scope : Scope) (cl : List (Str × Addr)) (Fin : Shared → List Value → List (Addr × Obj) → Prop) (xv : Value) (s₁ : Shared) : Prop :=
  ∃ r a b c t u v n news, xv = .ref r ∧ A.handled = none ∧ Fr h₀ L s₁.heap m ∧ News h₀ L s₁.heap news ∧ IsRange s₁.heap r a b c t u v ∧ Builtin.Range.small a b c = true ∧ Builtin.Range.rangeSize a b c = ((n : Nat) : Int) ∧ n ≤ sizeLine ∧
    ∀ s₂ : Shared, (∃ h, s₂ = { s₁ with heap := h }) → CompRestT prog w A h₀ L m env ct elt x scope cl s₂ (fun _ => True) (fun i v => ∃ t, v = .int (a + (i : Int) * c) t) (Fin s₂) n 0 [] news
theorem step_st {I : Addr} {a c : Int} {n : Nat} : ∀ i (h h' : Heap) (o : Obj) (nw : List (Addr × Obj)), IsRangeIter h I (a + (i : Nat) * c) ((n : Int) - (i : Nat)) c → h.get? I = some o → h'.get? I = some o → (∀ b o, h₀.get? b = some o → h'.get? b = some o) → News h₀ L h' nw → True → IsRangeIter h' I (a + (i : Nat) * c) ((n : Int) - (i : Nat)) c :=
  fun i h h' o nw st e e' _ _ _ => by
    have st' : h.get? I = some _ := st
    show h'.get? I = some _
    rw [e', ← e]; exact st'
theorem ListComp_S {ct elt iter : Expr} {x : Str} {px : Pos} {scope : Scope} {cl : List (Str × Addr)} {pos : Pos} {Q : Value → Shared → Prop} (_F₀ : Fr h₀ L s.heap m)
    (hclos : closureFor scope env = pure cl) (hcell : ∀ y ∈ scope.names, y.2 ≠ .cell) (hkind : scope.kind = .function)
    (hnames : ∀ y ∈ scope.names, y.2 = .local → scope.names.lookup y.1 = some .local) (hx : scope.names.lookup x = some .local)
    (h : wpAny (model prog w) A (eval iter env) (CompSrcS prog w A h₀ L m env ct elt x scope cl (fun s₂ => FinE h₀ L m s₂ Q)) E s)
    (hs : ∀ x, foldedSetIterable iter env x = pure x := by intro _; rfl) :
    wpAny (model prog w) A (eval (.ListComp elt [⟨.Name x px, iter, [ct], 0⟩] scope pos) env) Q E s := by
  rw [eval_ListComp]
  refine wpAny_comprehension_free (use := none) rfl hs hclos hkind hnames (wpAny_mono h (fun xv s₁ h₁ => ?_) fun _ _ e => e)
  obtain ⟨r, a, b, c, t, u, v, n, news, rfl, hh, F, N, hr, hsm, hn, hsz, R⟩ := h₁
  refine wpAny_pyIter_range hr hsm ?_
  refine block_T (Walks.range hh _ a c n) hsz (fun i h st => ⟨_, st⟩) step_st hcell hkind hx (by show IsRangeIter _ _ _ _ _; rw [hn]; simpa using Heap.get?_push_size _ rfl) (fun b hb => ?_)
    (F.keeps fun _ _ e => Heap.get?_push_of_some _ e) (N.grown fun _ _ e => Heap.get?_push_of_some _ e) (Nat.ne_of_lt F.ns.lt) (next_is_new F) (fun p hp => Nat.ne_of_lt (Heap.lt_size (N p hp).1)) trivial (R _ ⟨_, rfl⟩) ?_
  · rw [List.mem_singleton.mp hb]
    show s₁.heap.objs.size < (s₁.heap.push _).objs.size
    rw [Heap.size_push]; exact Nat.lt_succ_self _
  · intro D C h tk m' ys news' F' N' o1 hn hC₀ hD₀ hCL hDL hCD offC fin
    refine ⟨m', hn, fun h'' hs'' => fin D h'' tk (F'.change hs'' hCL hC₀) (fun p hp => ?_) o1⟩
    refine ⟨hs''.extBut _ _ ?_ (N' p hp).1, (N' p hp).2⟩
    rcases List.mem_cons.mp hp with rfl | hp
    · exact Ne.symm hCD
    · exact offC p hp
theorem rest_ind {ct elt : Expr} {x : Str} {scope : Scope} {cl : List (Str × Addr)} {a c : Int} {n : Nat} {news : List (Addr × Obj)} {Fin : List Value → List (Addr × Obj) → Prop} (hit : Nat → Prop)
    (turn : ∀ (i : Nat) (t : Tok) (I : Addr) (oI : Obj) (C : Addr) (oC : Obj) (D : Addr) (m₂ : Str → Option Value) (h : Heap) (tk : Nat) (E' : Value → Shared → Prop) (ys : List Value) (K : Value → List (Addr × Obj) → Prop) (K0 : Value → List (Addr × Obj) → Prop),
      i < n → NsObj oC m₂ → m₂ x = some (.int (a + (i : Int) * c) t) → Fr h₀ L h m → News h₀ L h ((I, oI) :: (C, oC) :: (D, lst ys) :: news) → Off3 I C D news → ((@Ne Nat I C) ∧ (@Ne Nat I D) ∧ (@Ne Nat C D)) →
      (hit i → ∀ y, K y news) → (¬ hit i → ∀ y, K0 y news) →
      wpAny (model prog w) A (isTrue ct (compEnvC scope cl C env) (eval ct (compEnvC scope cl C env))) (fun ok s' => if ok = true then
        wpAny (model prog w) A (eval elt (compEnvC scope cl C env)) (fun y s'' => Hold (CompEnd h₀ L m { s with heap := h, toks := tk } I oI C oC D (lst ys) (fun _ => True) K y s'')) E' s'
        else Hold (CompEnd h₀ L m { s with heap := h, toks := tk } I oI C oC D (lst ys) (fun _ => True) K0 Value.none s')) E' { s with heap := h, toks := tk })
    (fin : ∀ ys, ys.length ≤ n → (ys = [] → ∀ j, j < n → ¬ hit j) → (ys ≠ [] → ∃ j, j < n ∧ hit j) → Fin ys news) :
    ∀ k i ys, i + k = n → ys.length ≤ i → (ys = [] → ∀ j, j < i → ¬ hit j) → (ys ≠ [] → ∃ j, j < n ∧ hit j) →
      CompRestT prog w A h₀ L m env ct elt x scope cl s (fun _ => True) (fun i v => ∃ t, v = .int (a + (i : Int) * c) t) Fin k i ys news
  | 0, i, ys, e, h0, h1, h2 => CompRestT.zero (fin ys (by omega) (fun q j hj => h1 q j (by omega)) h2)
  | k + 1, i, ys, e, h0, h1, h2 => by
    refine CompRestT.succ ?_
    intro v I oI C oC D m₂ h tk E' hv hC hx F N off ne
    obtain ⟨t, rfl⟩ := hv
    refine turn i t I oI C oC D m₂ h tk E' ys _ _ (by omega) hC hx F N off ne (fun hh y => ?_) (fun hh y => ?_)
    · exact rest_ind hit turn fin k (i + 1) (ys ++ [y]) (by omega) (by rw [List.length_append, List.length_singleton]; omega) (fun q => by simp at q) (fun _ => ⟨i, by omega, hh⟩)
    · refine rest_ind hit turn fin k (i + 1) ys (by omega) (by omega) (fun q j hj => ?_) h2
      by_cases hji : j = i
      · rw [hji]; exact hh
      · exact h1 q j (by omega)
end
end Mine
end
section
open PySem PySem.W PySem.Spec PySem.Calls PyProof.Rows
set_option Elab.async false
set_option maxRecDepth 100000
set_option maxHeartbeats 8000000
namespace Mine
local macro_rules | `(tactic| walk_at "binaryOp Mod int int") => `(tactic| (with_reducible refine mod_e ?kmp ?_; (case kmp => first | assumption | decide | omega | mul_fits)))
local macro_rules | `(tactic| walk_at "inplaceOp Mod int int") => `(tactic| (with_reducible refine imod_e ?kmp ?_; (case kmp => first | assumption | decide | omega | mul_fits)))
local macro_rules | `(tactic| walk_at "binaryOp FloorDiv int int") => `(tactic| (with_reducible refine div_e ?kmp ?kmq ?_; (case kmp => first | assumption | decide | omega | mul_fits); (case kmq => first | assumption | (unfold Bnd; omega) | decide | mul_fits)))
local macro_rules | `(tactic| walk_at "binaryOp Mult int int") => `(tactic| (with_reducible refine mul_e ?kmp ?kmq ?_; (case kmp => first | assumption | mul_fits | (unfold Bnd at *; omega)); (case kmq => first | assumption | mul_fits | (unfold Bnd at *; omega))))
local macro_rules | `(tactic| k_enter) => `(tactic| (refine' code_def ?k1 ?k2 ?k3 ?k4 ?k5 ?kA ?kF ?kK ?k6 ?k7 ?k8 ?k9 ?kB ?_ ?c2 ?c3 ?c4 ?c5; (case kA => exact rfl); (case kF => exact rfl); (case kK => first | exact rfl | assumption); (case k1 => k_asm); (case k2 => k_asm); (case k3 => k_asm); (case k4 => k_asm); (case k5 => k_asm); (case k6 => k_is); (case k7 => k_is); (case k8 => ktr_room); (case k9 => first | exact BindsTo.of_eq rfl | exact binds_K (by k_in) rfl (by k_is) rfl rfl rfl); (case c5 => decide); (case kB => exact locs rfl); (case c2 => exact rfl); (case c3 => exact rfl); (case c4 => exact rfl); k_whole; intro g' L' h' FG' F' N' B' X' T'; (try dsimp only); (try k_lift B'); (try k_fold)))
local macro_rules | `(tactic| walk_at "call ref") => `(tactic| (k_here; k_dflt (refine' Con.use (Tag.out (c_inv _ _ _ _ _ _ ?p1 ?p2 ?p3)) ?k1 ?k2 ?k3 ?k4 ?k5 ?kK ?kd ?ku ?_; (case k1 => k_asm); (case k2 => k_asm); (case k3 => k_asm); (case k4 => k_asm); (case k5 => k_asm); (case kK => first | exact rfl | assumption); (case p1 => first | assumption | omega); (case p2 => assumption); (case p3 => assumption); (case kd => ktr_room); (case ku => ktr_units); k_whole; intro r9 t9 h9 tk9 hr1 hr2 hr3 F9 N9; (try dsimp only [PySem.W.CmpBack]); (try dsimp only); (try k_sweep); (try k_fold))))
local macro_rules | `(tactic| walk_at "call ref") => `(tactic| (k_here; k_dflt (refine' Con.use (Tag.out (c_fq _ _ _ _ _ _ ?p1)) ?k1 ?k2 ?k3 ?k4 ?k5 ?kK ?kd ?ku ?_; (case k1 => k_asm); (case k2 => k_asm); (case k3 => k_asm); (case k4 => k_asm); (case k5 => k_asm); (case kK => first | exact rfl | assumption); (case p1 => first | assumption | omega); (case kd => ktr_room); (case ku => ktr_units); k_whole; intro x9 dx9 t91 t92 u91 u92 h9 tk9 F9 N9 l91 l92; (try k_lt l91); (try k_lt2 l92); (try dsimp only [PySem.W.CmpBack]); (try dsimp only); (try k_sweep); (try k_fold))))

local macro_rules | `(tactic| walk_at "call ref") => `(tactic| (k_here; (with_reducible show wpAny _ _ (call (Value.ref 141) _) _ _ _); k_dflt (refine' Con.use (Tag.out (c_div ?q1 ?q2 ?q3 ?q4 ?p1 ?p2 ?p3 ?p4)) ?k1 ?k2 ?k3 ?k4 ?k5 ?kK ?kd ?ku ?_; (case k1 => k_asm); (case k2 => k_asm); (case k3 => k_asm); (case k4 => k_asm); (case k5 => k_asm); (case kK => first | exact rfl | assumption); (case q1 => k_mem); (case q2 => k_mem); (case q3 => k_mem); (case q4 => k_mem); (case p1 => first | assumption | omega); (case p2 => assumption); (case p3 => first | assumption | exact PrimeI.cop0 (by assumption) (by assumption) (by assumption) | mul_fits); (case p4 => first | assumption | mul_fits); (case kd => ktr_room); (case ku => ktr_units); k_whole; intro r9 hr1 hr2 hr3 x9 dx9 t91 t92 u91 u92 h9 tk9 F9 N9 l91 l92; (try k_lt l91); (try k_lt2 l92); (try dsimp only [PySem.W.CmpBack]); (try dsimp only); (try k_sweep); (try k_fold))))
local macro_rules | `(tactic| mul_fits) => `(tactic| first | exact Bnd.emod (by assumption) (by assumption) | exact Bnd.flag (by assumption))
local macro_rules | `(tactic| k_mem) => `(tactic| ((repeat (with_reducible refine List.mem_cons_of_mem _ ?_)); ktr_member))
local macro_rules | `(tactic| k_units) => `(tactic| ((simp only [units_in1, units_deeper, Around.mark_units]); omega))
local macro_rules | `(tactic| walk_at "binaryOp Div") => `(tactic| (k_here; (with_reducible show wpAny _ _ (binaryOp _ (Value.ref _) (Value.ref _)) _ _ _); k_dflt (refine' binop_K ?k1 ?k2 ?k3 ?k4 ?k5 ?k6 ?k7 ?_; (case k1 => k_asm); (case k2 => k_asm); (case k3 => k_inst); (case k4 => k_typeOf); (case k5 => k_is); (case k6 => k_is); (case k7 => k_is); k_whole)))
local macro_rules | `(tactic| walk_at "call builtin:pow") => `(tactic| ((with_reducible show wpAny _ _ (call (Value.builtin _) [Value.int _ _, Value.int _ _, Value.int _ _]) _ _ _); refine call_pow3 ?kpe ?kpm ?_; (case kpe => first | assumption | omega); (case kpm => first | assumption | omega); (try dsimp only)))
local macro_rules | `(tactic| walk_at "binaryOp Pow int int") => `(tactic| (with_reducible refine pow_e ?kpe ?kpm ?kpb ?_; (case kpe => first | assumption | decide); (case kpm => first | assumption | decide); (case kpb => first | assumption | mul_fits | (unfold Bnd at *; omega))))
local macro_rules | `(tactic| walk_at "binaryOp RShift int int") => `(tactic| first
  | (with_reducible refine shr_e (k := 19701003098197239606139520050071806902539869635232723333974146702122860885748605305707133127442457820403313995153408) ?kpe ?kpm ?_; (case kpe => decide); (case kpm => decide +kernel))
  | (with_reducible refine shr_e (k := 9850501549098619803069760025035903451269934817616361666987073351061430442874302652853566563721228910201656997576704) ?kpe ?kpm ?_; (case kpe => decide); (case kpm => decide +kernel))
  | (with_reducible refine shr_e (k := 4925250774549309901534880012517951725634967408808180833493536675530715221437151326426783281860614455100828498788352) ?kpe ?kpm ?_; (case kpe => decide); (case kpm => decide +kernel)))
local macro_rules | `(tactic| walk_at "binaryOp BitAnd int int") => `(tactic| (with_reducible refine and1_e ?kpe ?_; (case kpe => omega)))
local macro_rules | `(tactic| walk_at "LeaveT") => `(tactic| (k_dflt (refine' leaveT_ ?F ?N ?T ?_; (case F => k_asm); (case N => k_asm); (case T => first | assumption | exact KtsTurn.refl); k_whole); intro kg9 kB9; (try dsimp only [InitBack, PySem.W.CmpBack])))
local macro_rules | `(tactic| walk_at "binaryOp Pow int int") => `(tactic| ((with_reducible show wpAny _ _ (binaryOp _ (Value.int 2 _) (Value.int _ _)) _ _ _); first
  | (with_reducible refine pow_lit (k := 4925250774549309901534880012517951725634967408808180833493536675530715221437151326426783281860614455100828498788352) ?kpe ?kpm bnd2 ?kpk ?_; (case kpe => decide); (case kpm => decide); (case kpk => decide +kernel))
  | (with_reducible refine pow_lit (k := 39402006196394479212279040100143613805079739270465446667948293404245721771497210611414266254884915640806627990306816) ?kpe ?kpm bnd2 ?kpk ?_; (case kpe => decide); (case kpm => decide); (case kpk => decide +kernel))))
/-- what the law's small primes are told by -/
def SmallP (p : Int) : Prop := 7 ≤ p ∧ p ≤ 1019 ∧ p % 4 = 3 ∧ ∀ k ∈ ([3, 5, 7, 9, 11, 13, 15, 17, 19, 21, 23, 25, 27, 29, 31] : List Int), ¬ (k < p ∧ p % k = 0)
theorem smallP_of {v : Int} (hP : 7 ≤ v ∧ v ≤ 1019 ∧ v % 4 = 3) (hno : ∀ j : Nat, j < 15 → ¬ (3 + (j : Int) * 2 < v ∧ v % (3 + (j : Int) * 2) = 0)) : SmallP v := by
  refine ⟨hP.1, hP.2.1, hP.2.2, fun k hk => ?_⟩
  have : ∃ j : Nat, j < 15 ∧ k = 3 + (j : Int) * 2 := by
    simp only [List.mem_cons, List.not_mem_nil, or_false] at hk
    rcases hk with rfl | rfl | rfl | rfl | rfl | rfl | rfl | rfl | rfl | rfl | rfl | rfl | rfl | rfl | rfl
    · exact ⟨0, by decide, by decide⟩
    · exact ⟨1, by decide, by decide⟩
    · exact ⟨2, by decide, by decide⟩
    · exact ⟨3, by decide, by decide⟩
    · exact ⟨4, by decide, by decide⟩
    · exact ⟨5, by decide, by decide⟩
    · exact ⟨6, by decide, by decide⟩
    · exact ⟨7, by decide, by decide⟩
    · exact ⟨8, by decide, by decide⟩
    · exact ⟨9, by decide, by decide⟩
    · exact ⟨10, by decide, by decide⟩
    · exact ⟨11, by decide, by decide⟩
    · exact ⟨12, by decide, by decide⟩
    · exact ⟨13, by decide, by decide⟩
    · exact ⟨14, by decide, by decide⟩
  obtain ⟨j, hj, rfl⟩ := this
  exact hno j hj
theorem small_next {v : Int} (hP : 7 ≤ v ∧ v ≤ 1019 ∧ v % 4 = 3) (h : ∃ j : Nat, j < 15 ∧ 3 + (j : Int) * 2 < v ∧ v % (3 + (j : Int) * 2) = 0) : 7 ≤ v + 4 ∧ v + 4 ≤ 1019 ∧ (v + 4) % 4 = 3 := by
  obtain ⟨j, hj, _, h2⟩ := h
  have hd : ∀ i, i < 15 → ¬ (1019 : Int) % (3 + ((i : Nat) : Int) * 2) = 0 := by decide
  by_cases e : v = 1019
  · subst e; exact absurd h2 (hd j hj)
  · omega
def LawP (p : Int) : Prop := p = 4002409555221667393417789825735904156556882819939007885332058136124031650490837864442687629129015664037894272559787 ∨ SmallP p
theorem ne_above {news : List (Addr × Obj)} {L : Addr} (h : ∀ p ∈ news, p.1 < L) : ∀ p ∈ news, p.1 ≠ L + 1 := fun p hp => Nat.ne_of_lt (Nat.lt_succ_of_lt (h p hp))
local macro_rules | `(tactic| k_all) => `(tactic| exact ne_above (by assumption))
local macro_rules | `(tactic| walk_at "exec While ListComp cons nil") => `(tactic| refine Hold.out ?_)
local macro_rules | `(tactic| walk_at "eval ListComp") => `(tactic| ((with_reducible rename Fr _ _ _ _ => kF9); k_dflt (refine ListComp_S kF9 (by with_unfolding_all rfl) (by decide) (by rfl) (by decide) (by rfl) ?_)))
theorem c_prime {w : World} {n : Int} {tn : Tok} {news : List (Addr × Obj)} : Tag PySem.Challenge.rw_kh0009_01 hd.heap_39
    (Con w 3 238 [.int n tn] news fun h₀ L m s Q =>
      ∀ (v : Int) (t : Tok) (h' : Heap) (tk' : Nat), LawP v → Fr h₀ L h' m → News h₀ L h' news → Q (.int v t) { s with heap := h', toks := tk' }) := by
  w_top off
  k_with_none
  k_fill
  unfold Tag
  intro mean mg mb dp un gd cn cs a1 ccd cl outer A₀ base h₀ L m s Q E B F X1 N T hk hdp hun hret
  refine wpAny_call ?_
  k_dflt (refine' code_defC ?k1 ?k2 ?k3 ?k4 ?k5 ?kA ?kF ?kK ?k6 ?k7 ?k8 ?k9 ?kB ?kD ?_ ?c2 ?c3 ?c4; (case kA => exact rfl); (case kF => exact rfl); (case kK => first | exact rfl | assumption); (case k1 => k_asm); (case k2 => k_asm); (case k3 => k_asm); (case k4 => k_asm); (case k5 => k_asm); (case k6 => k_is); (case k7 => k_is); (case k8 => ktr_room); (case k9 => exact BindsTo.of_eq rfl); (case kB => exact rfl); (case kD => decide +kernel); (case c2 => exact rfl); (case c3 => exact rfl); (case c4 => exact rfl); k_whole; intro g' L' h' tk' cells' FG' F' N' Y' B' X' T' l1; (try k_lt l1); k_cells Y'; (try simp only [List.cons_append, List.nil_append] at N'); (try dsimp only); (try k_lift B'); (try k_fold))
  obtain ⟨bw1, bw2, BM⟩ := bmod_of_top T'
  k_steps
  · exact hret _ _ _ _ (.inl rfl) (by assumption) (cb_drop (by assumption) fun p hp => .tail _ hp)
  · refine Hold.out ?_
    unfold Hold
    refine while_cell (c := L' + 1) (news := news) (fun v => 7 ≤ v ∧ v ≤ 1019 ∧ v % 4 = 3) (fun v => (1019 - v).toNat) (by assumption) (by assumption) (by assumption) ?_ ?_
    · omega
    · intro v t o h tk hP ho hF hN
      k_steps
      refine ⟨_, 3, 32, 2, _, _, _, 15, _, rfl, rfl, by assumption, by assumption, by assumption, by decide, by decide, by decide +kernel, ?_⟩
      rintro s₂ ⟨h2, rfl⟩
      refine rest_ind (fun j => (3 + (j : Int) * 2) < v ∧ v % (3 + (j : Int) * 2) = 0) ?_ ?_ 15 0 [] rfl (by decide) (fun _ j hj => by omega) (fun q => absurd rfl q)
      · intro i t9 I oI C oC D m₂ h9 tk9 E9 ys K K0 hi hC hx hF9 hN9 off ne hK hK0
        k_steps
        · exact Hold.mk (LCg.CompEnd.intro (by assumption) (by assumption) _ (fun p hp => hp) off trivial (hK ⟨by assumption, by assumption⟩ _))
        · exact Hold.mk (LCg.CompEnd.intro (by assumption) (by assumption) _ (fun p hp => hp) off trivial (hK0 (fun q => absurd q.2 (by assumption)) _))
        · exact Hold.mk (LCg.CompEnd.intro (by assumption) (by assumption) _ (fun p hp => hp) off trivial (hK0 (fun q => absurd q.1 (by assumption)) _))
      · intro ys hlen hno hyes D h9 tk9 hF9 hN9 off
        have o1 : @Ne Nat (L' + 1) D := off.1
        k_steps
        · have hnil : ys = [] := List.isEmpty_iff.mp (by assumption)
          exact hret _ _ _ _ (.inr (smallP_of hP (fun j hj => hno hnil j hj))) (by assumption) (cb_drop (by assumption) (fun p hp => .tail _ (.tail _ hp)))
        · have he : ys.isEmpty = false := by assumption
          have hne : ys ≠ [] := fun q => by rw [q] at he; cases he
          have q9 := small_next hP (hyes hne)
          dsimp only [CellPost]
          exact ⟨v + 4, _, _, _, _, _, rfl, by assumption, by assumption, .tail _ (.head _), fun p hp => .tail _ (.tail _ hp), by assumption, q9, by show (1019 - (v + 4)).toNat < (1019 - v).toNat; omega⟩
end Mine
end
section
open PySem
namespace Mine
/-! powMod is the power -/
theorem pow_step (b m p x : Nat) (h : p = b ^ x % m) (c : Bool) : (if c then p * p % m * b % m else p * p % m) = b ^ (2 * x + c.toNat) % m := by
  subst h
  have e : b ^ x % m * (b ^ x % m) % m = b ^ (2 * x) % m := by
    rw [← Nat.mul_mod, ← Nat.pow_add, Nat.two_mul]
  cases c with
  | false => simp only [Bool.false_eq_true, if_false, Bool.toNat_false, Nat.add_zero]; exact e
  | true =>
    simp only [if_true, Bool.toNat_true]
    rw [e, Nat.pow_succ, Nat.mod_mul_mod]
theorem pow_fold (b e m : Nat) : ∀ k p, p = b ^ (e >>> k) % m → (List.range k).reverse.foldl (fun p i => if e.testBit i then p * p % m * b % m else p * p % m) p = b ^ e % m
  | 0, p, h => by simpa using h
  | k + 1, p, h => by
    rw [List.range_succ, List.reverse_append, List.reverse_singleton, List.singleton_append, List.foldl_cons]
    refine pow_fold b e m k _ ?_
    rw [pow_step b m p _ h]
    congr 2
    have e1 : e >>> (k + 1) = (e >>> k) / 2 := by rw [Nat.shiftRight_succ]
    have e2 : (e.testBit k).toNat = (e >>> k) % 2 := by
      rw [Nat.testBit, Nat.one_and_eq_mod_two]
      rcases Nat.mod_two_eq_zero_or_one (e >>> k) with h | h <;> rw [h] <;> rfl
    rw [e1, e2]; omega
theorem powMod_eq (b e m : Nat) : Builtin.powMod b e m = b ^ e % m := by
  unfold Builtin.powMod
  refine pow_fold b e m _ _ ?_
  have hz : e >>> Builtin.Int.intBits (e : Int) = 0 := by
    rw [Nat.shiftRight_eq_div_pow]
    refine Nat.div_eq_of_lt ?_
    unfold Builtin.Int.intBits
    split
    · rename_i h
      have : e = 0 := by simpa using h
      subst this; decide
    · exact Nat.lt_log2_self
  rw [hz, Nat.pow_zero]
/-- Euler's power -/
def eulI (md s : Int) : Int := ((Builtin.powMod (s % md).toNat ((md - 1) / 2).toNat md.toNat : Nat) : Int)
/-- what is asked of the prime: Euler's power tells the squares, by the root that is tried -/
def EulerI (md : Int) : Prop := ∀ s, 0 < s → s < md → (chkI md s = s ↔ eulI md s = 1)
theorem powMod_rng {md a e : Int} (h : 1 < md) : 0 ≤ ((Builtin.powMod a.toNat e.toNat md.toNat : Nat) : Int) ∧ ((Builtin.powMod a.toNat e.toNat md.toNat : Nat) : Int) < md := by
  rw [powMod_eq]
  have : a.toNat ^ e.toNat % md.toNat < md.toNat := Nat.mod_lt _ (by omega)
  omega
theorem pw_rng {md s : Int} (h : 1 < md) : 0 ≤ pwI md s ∧ pwI md s < md := powMod_rng h
theorem chk_sq {md s : Int} (h : 1 < md) : chkI md s = pwI md s * pwI md s % md := by
  have r := pw_rng (s := s) h
  unfold chkI
  rw [powMod_eq, Int.emod_eq_of_lt r.1 r.2]
  obtain ⟨p, hp⟩ := Int.eq_ofNat_of_zero_le r.1
  rw [hp]
  obtain ⟨m, hm⟩ := Int.eq_ofNat_of_zero_le (show 0 ≤ md by omega)
  rw [hm]
  simp only [Int.toNat_natCast, show Int.toNat 2 = 2 from rfl, Nat.pow_two]
  rfl
/-- the height that is given back: in the range, a root, in the half that is told -/
theorem height {md s t Y : Int} (h : 1 < md) (hodd : md % 2 = 1) (hs : s ≠ 0) (hc : chkI md s = s) (ht : t = 0 ∨ t = 1)
    (hY : (pwI md s * 2 / md = t ∧ Y = pwI md s % md) ∨ (pwI md s * 2 / md ≠ t ∧ Y = (md - pwI md s) % md)) :
    (0 ≤ Y ∧ Y < md) ∧ Y * Y % md = s ∧ Y * 2 / md = t ∧ (decide (md / 2 < Y) = (t == 1)) := by
  have r := pw_rng (s := s) h
  rw [chk_sq h] at hc
  have hp0 : pwI md s ≠ 0 := fun e => by rw [e, Int.zero_mul, Int.zero_emod] at hc; exact hs hc.symm
  generalize pwI md s = p at *
  have q2 : ∀ y : Int, 0 ≤ y → y < md → (y * 2 / md = 0 ∧ y * 2 < md) ∨ (y * 2 / md = 1 ∧ md < y * 2) := fun y h0 h1 => by
    rcases flag01 h h0 h1 with e | e
    · refine .inl ⟨e, ?_⟩
      have := Int.mul_ediv_add_emod (y * 2) md
      have h3 := Int.emod_lt_of_pos (y * 2) (show 0 < md by omega)
      rw [e, Int.mul_zero] at this
      omega
    · refine .inr ⟨e, ?_⟩
      have := Int.mul_ediv_add_emod (y * 2) md
      have h3 := Int.emod_nonneg (y * 2) (show md ≠ 0 by omega)
      rw [e, Int.mul_one] at this
      omega
  have last : ∀ y : Int, 0 ≤ y → y < md → y * 2 / md = t → decide (md / 2 < y) = (t == 1) := fun y h0 h1 e => by
    rcases q2 y h0 h1 with ⟨e1, e2⟩ | ⟨e1, e2⟩
    · have : t = 0 := by omega
      subst this
      rw [decide_eq_false (by omega)]; rfl
    · have : t = 1 := by omega
      subst this
      rw [decide_eq_true (by omega)]; rfl
  rcases hY with ⟨e, rfl⟩ | ⟨e, rfl⟩
  · rw [Int.emod_eq_of_lt r.1 r.2]
    exact ⟨r, hc, e, last p r.1 r.2 e⟩
  · have r' : 0 ≤ md - p ∧ md - p < md := by omega
    rw [Int.emod_eq_of_lt r'.1 r'.2]
    have e' : (md - p) * 2 / md = t := by
      rcases q2 p r.1 r.2 with ⟨e1, e2⟩ | ⟨e1, e2⟩
      · rcases q2 (md - p) r'.1 r'.2 with ⟨e3, e4⟩ | ⟨e3, e4⟩ <;> omega
      · rcases q2 (md - p) r'.1 r'.2 with ⟨e3, e4⟩ | ⟨e3, e4⟩ <;> omega
    refine ⟨r', ?_, e', last _ r'.1 r'.2 e'⟩
    have : (md - p) * (md - p) = p * p + md * (md - 2 * p) := by grind
    rw [this, Int.add_mul_emod_self_left]
    exact hc
theorem mul_inv_back {md a b r : Int} (h : 1 < md) (ha : 0 ≤ a ∧ a < md) (hr : b % md * r % md = 1) : a * b % md * r % md = a := by
  have e1 : a * b % md * r % md = a * (b % md * r % md) % md := by
    rw [Int.mul_emod (a * b % md) r, Int.emod_emod_of_dvd _ (Int.dvd_refl md), ← Int.mul_emod, Int.mul_emod a (b % md * r % md), Int.emod_emod_of_dvd _ (Int.dvd_refl md), Int.mul_emod (b % md) r, Int.emod_emod_of_dvd _ (Int.dvd_refl md), ← Int.mul_emod b r, ← Int.mul_emod, Int.mul_assoc]
  rw [e1, hr, Int.mul_one]
  exact Int.emod_eq_of_lt ha.1 ha.2
/-- compress_G1 of the scaled point is the number again -/
theorem cmp_back {md z tp x Y sc v : Int} (h : 1 < md) (hz : z = tp * 4925250774549309901534880012517951725634967408808180833493536675530715221437151326426783281860614455100828498788352 + x) (hx : 0 ≤ x ∧ x < md) (hY : 0 ≤ Y ∧ Y < md) (hf : Y * 2 / md = tp - 4)
    (hsc : sc % md ≠ 0) (hv : CmpSpec md (x * sc % md) (Y * sc % md) (sc % md) v) : v = z := by
  rcases hv with ⟨e, _⟩ | ⟨_, r, r', _, _, h1, _, _, h2, rfl⟩
  · exact absurd e hsc
  · rw [mul_inv_back h hx h1, mul_inv_back h hY h2, hf, hz]; omega
theorem cmp_one {md z tp x Y v : Int} (h : 1 < md) (hz : z = tp * 4925250774549309901534880012517951725634967408808180833493536675530715221437151326426783281860614455100828498788352 + x) (hx : 0 ≤ x ∧ x < md) (hY : 0 ≤ Y ∧ Y < md) (hf : Y * 2 / md = tp - 4)
    (hv : CmpSpec md x Y 1 v) : v = z := by
  have e1 : (1 : Int) % md = 1 := Int.emod_eq_of_lt (by omega) h
  refine cmp_back (sc := 1) h hz hx hY hf (by rw [e1]; decide) ?_
  rw [Int.mul_one, Int.mul_one, e1, Int.emod_eq_of_lt hx.1 hx.2, Int.emod_eq_of_lt hY.1 hY.2]
  exact hv
theorem cmp_inf {md X Y v : Int} (hv : CmpSpec md X Y (0 % md) v) : v = 19701003098197239606139520050071806902539869635232723333974146702122860885748605305707133127442457820403313995153408 + 9850501549098619803069760025035903451269934817616361666987073351061430442874302652853566563721228910201656997576704 := by
  rcases hv with ⟨_, e⟩ | ⟨e, _⟩
  · exact e
  · exact absurd (Int.zero_emod md) e
end Mine
end
section
open PySem
namespace Mine
/-! primes, without a library -/
/-- a prime number -/
def Pr (p : Nat) : Prop := 2 ≤ p ∧ ∀ d, d ∣ p → d = 1 ∨ d = p
theorem Pr.cop {p a : Nat} (h : Pr p) (ha : ¬ p ∣ a) : Nat.Coprime p a := by
  rcases h.2 _ (Nat.gcd_dvd_left p a) with e | e
  · exact e
  · exact absurd (e ▸ Nat.gcd_dvd_right p a) ha
theorem Pr.or {p a b : Nat} (h : Pr p) (hd : p ∣ a * b) : p ∣ a ∨ p ∣ b := by
  by_cases ha : p ∣ a
  · exact .inl ha
  · exact .inr (Nat.Coprime.dvd_of_dvd_mul_left (h.cop ha) hd)
theorem Pr.exists_dvd : ∀ n, 2 ≤ n → ∃ p, Pr p ∧ p ∣ n := by
  intro n
  induction n using Nat.strongRecOn with
  | _ n ih =>
    intro hn
    by_cases h : Pr n
    · exact ⟨n, h, Nat.dvd_refl n⟩
    · have : ∃ d, d ∣ n ∧ d ≠ 1 ∧ d ≠ n := by
        refine Classical.byContradiction fun q => h ⟨hn, fun d hd => ?_⟩
        refine Classical.byContradiction fun r => q ⟨d, hd, fun e => r (.inl e), fun e => r (.inr e)⟩
      obtain ⟨d, hd, h1, h2⟩ := this
      have hle := Nat.le_of_dvd (by omega) hd
      have h0 : d ≠ 0 := fun e => by rw [e, Nat.zero_dvd] at hd; omega
      obtain ⟨p, hp, hpd⟩ := ih d (by omega) (by omega)
      exact ⟨p, hp, Nat.dvd_trans hpd hd⟩

def prodN : List Nat → Nat
  | [] => 1
  | x :: t => x * prodN t
theorem prodN_erase {x : Nat} : ∀ {l : List Nat}, x ∈ l → prodN l = x * prodN (l.erase x)
  | y :: t, h => by
    by_cases e : y = x
    · subst e; rw [List.erase_cons_head]; rfl
    · have ht : x ∈ t := (List.mem_cons.mp h).resolve_left (fun q => e q.symm)
      rw [List.erase_cons_tail (by simpa using e)]
      show y * prodN t = x * (y * prodN (t.erase x))
      rw [prodN_erase ht, Nat.mul_left_comm]
theorem prodN_same : ∀ {l₁ l₂ : List Nat}, l₁.Nodup → (∀ x ∈ l₁, x ∈ l₂) → l₂.length ≤ l₁.length → prodN l₁ = prodN l₂
  | [], l₂, _, _, h => by
    have : l₂ = [] := List.eq_nil_of_length_eq_zero (by simpa using h)
    rw [this]
  | x :: t, l₂, hn, hs, hl => by
    obtain ⟨hx, hn'⟩ := List.nodup_cons.mp hn
    have hm := hs x (.head _)
    rw [prodN_erase hm]
    show x * prodN t = _
    rw [prodN_same hn' (fun y hy => (List.mem_erase_of_ne (by rintro rfl; exact hx hy)).mpr (hs y (.tail _ hy))) (by
      rw [List.length_erase_of_mem hm, List.length_cons] at *; omega)]
theorem prodN_map (a p : Nat) : ∀ l : List Nat, prodN (l.map fun x => a * x % p) % p = a ^ l.length * prodN l % p
  | [] => rfl
  | x :: t => by
    show a * x % p * prodN (t.map fun x => a * x % p) % p = a ^ (t.length + 1) * (x * prodN t) % p
    rw [Nat.mod_mul_mod, Nat.mul_mod, prodN_map a p t, ← Nat.mul_mod]
    congr 1
    rw [Nat.pow_succ]
    simp only [Nat.mul_assoc, Nat.mul_left_comm, Nat.mul_comm]
theorem Pr.prodN_nd {p : Nat} (h : Pr p) : ∀ {l : List Nat}, (∀ x ∈ l, ¬ p ∣ x) → ¬ p ∣ prodN l
  | [], _, hd => by
    have := Nat.le_of_dvd (by decide) hd
    have := h.1
    simp [prodN] at *; omega
  | x :: t, hx, hd => by
    rcases h.or hd with q | q
    · exact hx x (.head _) q
    · exact h.prodN_nd (fun y hy => hx y (.tail _ hy)) q
theorem dvd_of_same {p x y : Nat} (h : x % p = y % p) : p ∣ y - x := Nat.dvd_of_mod_eq_zero (Nat.sub_mod_eq_zero_of_mod_eq h.symm)
theorem same_of_dvd {p x y : Nat} (hle : x ≤ y) (h : p ∣ y - x) : x % p = y % p := by
  obtain ⟨c, hc⟩ := h
  have : y = x + p * c := by omega
  rw [this, Nat.add_mul_mod_self_left]
theorem Pr.cancel {p a x y : Nat} (h : Pr p) (ha : ¬ p ∣ a) (e : a * x % p = a * y % p) : x % p = y % p := by
  have key : ∀ x y : Nat, x ≤ y → a * x % p = a * y % p → x % p = y % p := fun x y hle e => by
    have h1 : p ∣ a * y - a * x := dvd_of_same e
    rw [← Nat.mul_sub] at h1
    exact same_of_dvd hle ((h.or h1).resolve_left ha)
  rcases Nat.le_total x y with q | q
  · exact key x y q e
  · exact (key y x q e.symm).symm
/-- Fermat -/
theorem Pr.fermat {p a : Nat} (h : Pr p) (ha : ¬ p ∣ a) : a ^ (p - 1) % p = 1 := by
  have hp := h.1
  have hmem : ∀ x, x ∈ List.range' 1 (p - 1) ↔ 1 ≤ x ∧ x < p := fun x => by rw [List.mem_range'_1]; omega
  have hnd : ∀ x ∈ List.range' 1 (p - 1), ¬ p ∣ x := fun x hx hd => by
    have := (hmem x).mp hx
    have := Nat.le_of_dvd (by omega) hd
    omega
  have e1 : prodN ((List.range' 1 (p - 1)).map fun x => a * x % p) = prodN (List.range' 1 (p - 1)) := by
    refine prodN_same ?_ ?_ (by simp)
    · have hn : (List.range' 1 (p - 1)).Nodup := List.nodup_range'
      refine List.pairwise_map.mpr (List.Pairwise.imp_of_mem ?_ hn)
      intro x y hx hy hxy e
      have := h.cancel ha e
      rw [Nat.mod_eq_of_lt ((hmem x).mp hx).2, Nat.mod_eq_of_lt ((hmem y).mp hy).2] at this
      exact hxy this
    · intro y hy
      obtain ⟨x, hx, rfl⟩ := List.mem_map.mp hy
      refine (hmem _).mpr ⟨?_, Nat.mod_lt _ (by omega)⟩
      rcases Nat.eq_zero_or_pos (a * x % p) with e | e
      · rcases h.or (Nat.dvd_of_mod_eq_zero e) with q | q
        · exact absurd q ha
        · exact absurd q (hnd x hx)
      · exact e
  have e2 := prodN_map a p (List.range' 1 (p - 1))
  rw [e1, List.length_range'] at e2
  have e3 := h.cancel (a := prodN (List.range' 1 (p - 1))) (x := a ^ (p - 1)) (y := 1) (h.prodN_nd hnd) (by rw [Nat.mul_one, Nat.mul_comm]; exact e2.symm)
  rw [e3]; exact Nat.mod_eq_of_lt (by omega)
/-- powers that are one: the exponents' gcd too -/
theorem pow_gcd {p a : Nat} (hp : 1 < p) : ∀ m n : Nat, a ^ m % p = 1 → a ^ n % p = 1 → a ^ (Nat.gcd m n) % p = 1 := by
  intro m
  induction m using Nat.strongRecOn with
  | _ m ih =>
    intro n hm hn
    by_cases h0 : m = 0
    · subst h0; rw [Nat.gcd_zero_left]; exact hn
    · rw [Nat.gcd_rec]
      refine ih (n % m) (Nat.mod_lt _ (by omega)) m ?_ hm
      have e : a ^ n = (a ^ m) ^ (n / m) * a ^ (n % m) := by rw [← Nat.pow_mul, ← Nat.pow_add, Nat.div_add_mod]
      rw [e, Nat.mul_mod, Nat.pow_mod, hm, Nat.one_pow, Nat.mod_eq_of_lt hp, Nat.one_mul, Nat.mod_mod] at hn
      exact hn
theorem pock {N q M a p : Nat} (hq : Pr q) (hN : N = q * M + 1) (h1 : Builtin.powMod a (q * M) N = 1) (h2 : Nat.gcd (Builtin.powMod a M N - 1) N = 1) (hp : Pr p) (hd : p ∣ N) : q ∣ p - 1 := by
  rw [powMod_eq] at h1 h2
  refine Classical.byContradiction fun hn => ?_
  have hp1 := hp.1
  have ha : ¬ p ∣ a := fun q' => by
    have hz : q * M ≠ 0 := fun e => by rw [e] at hN; subst hN; have := Nat.le_of_dvd (by decide) hd; omega
    have : p ∣ a ^ (q * M) := Nat.dvd_trans q' (Nat.dvd_trans (show a ∣ a ^ 1 by rw [Nat.pow_one]; exact Nat.dvd_refl a) (Nat.pow_dvd_pow a (Nat.one_le_iff_ne_zero.mpr hz)))
    have h3 : p ∣ a ^ (q * M) % N := (Nat.dvd_mod_iff hd).mpr this
    rw [h1] at h3
    have := Nat.le_of_dvd (by decide) h3
    omega
  have low : ∀ k, a ^ k % N % p = a ^ k % p := fun k => Nat.mod_mod_of_dvd _ hd
  have f1 : a ^ (q * M) % p = 1 := by rw [← low, h1]; exact Nat.mod_eq_of_lt (by omega)
  have f2 := hp.fermat ha
  have f3 := pow_gcd (by omega) _ _ f1 f2
  have g1 : Nat.gcd (q * M) (p - 1) ∣ M := by
    refine Nat.Coprime.dvd_of_dvd_mul_left ?_ (Nat.gcd_dvd_left (q * M) (p - 1))
    exact (hq.cop (fun x => hn (Nat.dvd_trans x (Nat.gcd_dvd_right _ _)))).symm
  obtain ⟨c, hc⟩ := g1
  have f4 : a ^ M % p = 1 := by
    rw [hc, Nat.pow_mul, Nat.pow_mod, f3, Nat.one_pow]; exact Nat.mod_eq_of_lt (by omega)
  rw [← low] at f4
  have f5 : p ∣ a ^ M % N - 1 := dvd_of_same (by rw [f4]; exact Nat.mod_eq_of_lt (by omega))
  have := Nat.dvd_gcd f5 hd
  rw [h2] at this
  have := Nat.le_of_dvd (by decide) this
  omega
/-- a number whose prime factors all leave one by a large F is a prime -/
theorem pr_of {N F R : Nat} (hN : N = F * R + 1) (h2 : 2 ≤ N) (hF : ∀ p, Pr p → p ∣ N → F ∣ p - 1) (hs : R / F + 1 < R % F) : Pr N := by
  refine ⟨h2, fun d hd => ?_⟩
  refine Classical.byContradiction fun hn => ?_
  have h1 : d ≠ 1 := fun e => hn (.inl e)
  have h1' : d ≠ N := fun e => hn (.inr e)
  have hle := Nat.le_of_dvd (by omega) hd
  have h0 : d ≠ 0 := fun e => by rw [e, Nat.zero_dvd] at hd; omega
  obtain ⟨p, hp, hpd⟩ := Pr.exists_dvd d (by omega)
  have hpN := Nat.dvd_trans hpd hd
  have hple := Nat.le_of_dvd (by omega) hpd
  obtain ⟨a, ha⟩ := hF p hp hpN
  obtain ⟨c, hc⟩ := hpN
  have hp2 := hp.1
  have hF0 : 0 < F := by
    rcases Nat.eq_zero_or_pos F with e | e
    · rw [e, Nat.zero_mul] at hN; omega
    · exact e
  have ha0 : 0 < a := by
    rcases Nat.eq_zero_or_pos a with e | e
    · rw [e, Nat.mul_zero] at ha; omega
    · exact e
  have hpe : p = F * a + 1 := by omega
  have hc2 : 2 ≤ c := by
    rcases Nat.lt_or_ge c 2 with e | e
    · exfalso
      have : c = 0 ∨ c = 1 := by omega
      rcases this with e | e
      · rw [e, Nat.mul_zero] at hc; omega
      · rw [e, Nat.mul_one] at hc; omega
    · exact e
  have hcd : F ∣ c - 1 := by
    have e1 : F * R + 1 = F * a * c + c := by rw [← hN, hc, hpe, Nat.add_mul, Nat.one_mul]
    have e2 : c - 1 = F * R - F * (a * c) := by rw [← Nat.mul_assoc]; omega
    rw [e2, ← Nat.mul_sub]; exact Nat.dvd_mul_right _ _
  obtain ⟨b, hb⟩ := hcd
  have hb0 : 0 < b := by
    rcases Nat.eq_zero_or_pos b with e | e
    · rw [e, Nat.mul_zero] at hb; omega
    · exact e
  have hce : c = F * b + 1 := by omega
  have hR : R = F * (a * b) + (a + b) := by
    have : F * R = F * (F * (a * b) + (a + b)) := by
      have : F * R + 1 = (F * a + 1) * (F * b + 1) := by rw [← hN, hc, hpe, hce]
      grind
    exact Nat.eq_of_mul_eq_mul_left hF0 this
  have hmod : R % F = (a + b) % F := by rw [hR, Nat.mul_add_mod]
  have hdiv : R / F = a * b + (a + b) / F := by rw [hR, Nat.mul_add_div hF0]
  have hab : a + b ≤ a * b + 1 := by
    obtain ⟨a', rfl⟩ : ∃ k, a = k + 1 := ⟨a - 1, by omega⟩
    obtain ⟨b', rfl⟩ : ∃ k, b = k + 1 := ⟨b - 1, by omega⟩
    have : (a' + 1) * (b' + 1) = a' * b' + a' + b' + 1 := by grind
    omega
  rw [hmod, hdiv] at hs
  have h5 := Nat.mod_le (a + b) F
  clear hmod hdiv hR hce hb hc2 hpe ha hc
  generalize a * b = x at *
  generalize (a + b) % F = y at *
  generalize (a + b) / F = z at *
  omega
theorem dvd_both {x y n : Nat} (hc : Nat.gcd x y = 1) (hx : x ∣ n) (hy : y ∣ n) : x * y ∣ n := Nat.Coprime.mul_dvd_of_dvd_of_dvd hc hx hy
/-- a small prime, by trial -/
theorem pr_small {n k : Nat} (h2 : 2 ≤ n) (hk : n < k * k) (h : ∀ d, d < k → 2 ≤ d → d < n → n % d ≠ 0) : Pr n := by
  refine ⟨h2, fun d hd => ?_⟩
  refine Classical.byContradiction fun hn => ?_
  obtain ⟨e, he⟩ := hd
  have h1 : d ≠ 1 := fun e => hn (.inl e)
  have h1' : d ≠ n := fun e => hn (.inr e)
  have key : ∀ d e : Nat, n = d * e → d ≠ 1 → d ≠ n → d < k → False := fun d e he h1 h1' hlt => by
    have h0 : d ≠ 0 := fun q => by rw [q, Nat.zero_mul] at he; omega
    have := Nat.le_of_dvd (by omega) (show d ∣ n from ⟨e, he⟩)
    exact h d hlt (by omega) (by omega) (by rw [he]; exact Nat.mul_mod_right _ _)
  rcases Nat.lt_or_ge d k with q | q
  · exact key d e he h1 h1' q
  · refine key e d (by rw [Nat.mul_comm]; exact he) (fun q' => h1' (by rw [he, q', Nat.mul_one])) (fun q' => ?_) ?_
    · rw [q'] at he
      have := Nat.eq_of_mul_eq_mul_right (show 0 < n by omega) (show 1 * n = d * n by rw [Nat.one_mul]; exact he)
      omega
    rcases Nat.lt_or_ge e k with r | r
    · exact r
    · exfalso
      have := Nat.mul_le_mul q r
      omega
end Mine
end
section
open PySem
set_option maxRecDepth 100000
namespace Mine
theorem pr_a : Pr 582767 := pr_small (k := 764) (by decide) (by decide) (by decide +kernel)
theorem pr_b : Pr 10177 := pr_small (k := 101) (by decide) (by decide) (by decide +kernel)
theorem pr_c : Pr 47737 := pr_small (k := 219) (by decide) (by decide) (by decide +kernel)
theorem pr_d : Pr 609743 := pr_small (k := 781) (by decide) (by decide) (by decide +kernel)
theorem pr_n0 : Pr 859267 := by
  refine pr_of (F := 47737) (R := 18) (by decide +kernel) (by decide) (fun p hp hd => ?_) (by decide +kernel)
  have h0 : 47737 ∣ p - 1 := pock (M := 18) (a := 2) pr_c (by decide +kernel) (by decide +kernel) (by decide +kernel) hp hd
  exact h0
theorem pr_n1 : Pr 52437899 := by
  refine pr_of (F := 609743) (R := 86) (by decide +kernel) (by decide) (fun p hp hd => ?_) (by decide +kernel)
  have h0 : 609743 ∣ p - 1 := pock (M := 86) (a := 2) pr_d (by decide +kernel) (by decide +kernel) (by decide +kernel) hp hd
  exact h0
theorem pr_n2 : Pr 9272813673901 := by
  refine pr_of (F := 582767) (R := 15911700) (by decide +kernel) (by decide) (fun p hp hd => ?_) (by decide +kernel)
  have h0 : 582767 ∣ p - 1 := pock (M := 15911700) (a := 2) pr_a (by decide +kernel) (by decide +kernel) (by decide +kernel) hp hd
  exact h0
theorem pr_n3 : Pr 1928745244171409 := by
  refine pr_of (F := 9272813673901) (R := 208) (by decide +kernel) (by decide) (fun p hp hd => ?_) (by decide +kernel)
  have h0 : 9272813673901 ∣ p - 1 := pock (M := 208) (a := 2) pr_n2 (by decide +kernel) (by decide +kernel) (by decide +kernel) hp hd
  exact h0
theorem pr_n4 : Pr 7259797099061183477 := by
  refine pr_of (F := 1928745244171409) (R := 3764) (by decide +kernel) (by decide) (fun p hp hd => ?_) (by decide +kernel)
  have h0 : 1928745244171409 ∣ p - 1 := pock (M := 3764) (a := 2) pr_n3 (by decide +kernel) (by decide +kernel) (by decide +kernel) hp hd
  exact h0
theorem pr_n5 : Pr 2584487767265781317813 := by
  refine pr_of (F := 7259797099061183477) (R := 356) (by decide +kernel) (by decide) (fun p hp hd => ?_) (by decide +kernel)
  have h0 : 7259797099061183477 ∣ p - 1 := pock (M := 356) (a := 2) pr_n4 (by decide +kernel) (by decide +kernel) (by decide +kernel) hp hd
  exact h0
theorem pr_n6 : Pr 4002409555221667393417789825735904156556882819939007885332058136124031650490837864442687629129015664037894272559787 := by
  refine pr_of (F := 1185134582965340707399643631675375795733) (R := 3377177252905055060729329715378333121866931200904087765894858504534390183042) (by decide +kernel) (by decide) (fun p hp hd => ?_) (by decide +kernel)
  have h0 : 2584487767265781317813 ∣ p - 1 := pock (M := 1548627780682419094253811159333056487526295090608993460815435778148531492663339835832116448322) (a := 2) pr_n5 (by decide +kernel) (by decide +kernel) (by decide +kernel) hp hd
  have h1 : 52437899 ∣ p - 1 := pock (M := 76326657466228145285107433952224213951761927378879307985471693595581158781568229200843604148385419942890814) (a := 2) pr_n1 (by decide +kernel) (by decide +kernel) (by decide +kernel) hp hd
  have h2 : 859267 ∣ p - 1 := pock (M := 4657934675975764684804362119964928429180781782541407834040011004872794661602083944155527477639680872229346958) (a := 2) pr_n0 (by decide +kernel) (by decide +kernel) (by decide +kernel) hp hd
  have h3 : 10177 ∣ p - 1 := pock (M := 393279901269693170228730453545829238140599667872556537813899787375850609265091663991617139542990632213608555818) (a := 2) pr_b (by decide +kernel) (by decide +kernel) (by decide +kernel) hp hd
  have g1 : 135525108506618546899564994887 ∣ p - 1 := dvd_both (x := 2584487767265781317813) (y := 52437899) (by decide +kernel) h0 h1
  have g2 : 116452253411156598938748514461567829 ∣ p - 1 := dvd_both (x := 135525108506618546899564994887) (y := 859267) (by decide +kernel) g1 h2
  have g3 : 1185134582965340707399643631675375795733 ∣ p - 1 := dvd_both (x := 116452253411156598938748514461567829) (y := 10177) (by decide +kernel) g2 h3
  exact g3
theorem primeI_of {p : Nat} (h : Pr p) : PrimeI (p : Int) := by
  have h2 := h.1
  refine ⟨by omega, fun z h0 h1 => ?_⟩
  obtain ⟨k, rfl⟩ := Int.eq_ofNat_of_zero_le (Int.le_of_lt h0)
  rw [Int.gcd_natCast_natCast, Nat.gcd_comm]
  exact h.cop fun q => by
    have := Nat.le_of_dvd (by omega) q
    omega
/-- the great one -/
theorem primeI_great : PrimeI 4002409555221667393417789825735904156556882819939007885332058136124031650490837864442687629129015664037894272559787 := primeI_of pr_n6
theorem smallP_prime {p : Int} (h : SmallP p) : PrimeI p := by
  obtain ⟨h7, hb, hm, hd⟩ := h
  obtain ⟨k, rfl⟩ := Int.eq_ofNat_of_zero_le (show 0 ≤ p by omega)
  have hm' : k % 4 = 3 := by omega
  refine primeI_of (pr_small (k := 32) (by omega) (by omega) fun d hdl hd2 hlt e => ?_)
  have e' : (k : Int) % (d : Int) = 0 := by rw [← Int.natCast_emod, e]; rfl
  have hc : ∀ d : Nat, d < 32 → 2 ≤ d → d % 2 = 0 ∨ (d : Int) ∈ ([3, 5, 7, 9, 11, 13, 15, 17, 19, 21, 23, 25, 27, 29, 31] : List Int) := by decide
  rcases hc d hdl hd2 with q | q
  · obtain ⟨c, rfl⟩ := Nat.dvd_of_mod_eq_zero e
    have : d * c = 2 * (d / 2 * c) := by rw [← Nat.mul_assoc, show 2 * (d / 2) = d by omega]
    rw [this] at hm'
    omega
  · exact hd _ q ⟨by omega, e'⟩
/-- a prime that leaves 3 by 4: Euler's power tells -/
theorem eulerI_of {md : Int} (hp : PrimeI md) (h4 : md % 4 = 3) : EulerI md := by
  intro s h0 h1
  have h2 := hp.1
  obtain ⟨m, rfl⟩ := Int.eq_ofNat_of_zero_le (show 0 ≤ md by omega)
  obtain ⟨k, rfl⟩ := Int.eq_ofNat_of_zero_le (show 0 ≤ s by omega)
  have hg := hp.2 _ h0 h1
  rw [Int.gcd_natCast_natCast] at hg
  have e1 : eulI (m : Int) (k : Int) = ((k ^ ((m - 1) / 2) % m : Nat) : Int) := by
    unfold eulI
    rw [powMod_eq, Int.emod_eq_of_lt (by omega) h1]
    congr 3
    omega
  have e2 : chkI (m : Int) (k : Int) = ((k * k ^ ((m - 1) / 2) % m : Nat) : Int) := by
    have e3 : pwI (m : Int) (k : Int) = ((k ^ ((m + 1) / 4) % m : Nat) : Int) := by
      unfold pwI
      rw [powMod_eq, Int.emod_eq_of_lt (by omega) h1]
      congr 3
    rw [chk_sq h2, e3, ← Int.natCast_mul, ← Int.natCast_emod, ← Nat.mul_mod, ← Nat.pow_add, Nat.mul_comm k, ← Nat.pow_succ]
    congr 3
    omega
  rw [e1, e2]
  constructor
  · intro h
    have h' : k * k ^ ((m - 1) / 2) % m = k * 1 % m := by
      rw [Nat.mul_one, Nat.mod_eq_of_lt (show k < m by omega)]; exact_mod_cast h
    have hz : 1 ≤ k ^ ((m - 1) / 2) := Nat.pow_pos (by omega)
    have hd := dvd_of_same h'.symm
    rw [← Nat.mul_sub] at hd
    have := same_of_dvd hz (Nat.Coprime.dvd_of_dvd_mul_left (Nat.Coprime.symm hg) hd)
    rw [← this, Nat.mod_eq_of_lt (show 1 < m by omega)]
    rfl
  · intro h
    have h' : k ^ ((m - 1) / 2) % m = 1 := by exact_mod_cast h
    rw [Nat.mul_mod, h', Nat.mul_one, Nat.mod_mod, Nat.mod_eq_of_lt (show k < m by omega)]
theorem SmallP.euler {p : Int} (h : SmallP p) : EulerI p := eulerI_of (smallP_prime h) h.2.2.1
theorem euler_great : EulerI 4002409555221667393417789825735904156556882819939007885332058136124031650490837864442687629129015664037894272559787 := eulerI_of primeI_great (by decide)
theorem LawP.prime {p : Int} (h : LawP p) : PrimeI p := h.elim (fun e => e ▸ primeI_great) smallP_prime
theorem LawP.euler {p : Int} (h : LawP p) : EulerI p := h.elim (fun e => e ▸ euler_great) SmallP.euler
theorem LawP.odd {p : Int} (h : LawP p) : p % 2 = 1 := by
  rcases h with rfl | h
  · decide
  · have := h.2.2.1; omega
theorem LawP.rng {p : Int} (h : LawP p) : 7 ≤ p ∧ p ≤ 4002409555221667393417789825735904156556882819939007885332058136124031650490837864442687629129015664037894272559787 := by
  rcases h with rfl | h
  · decide
  · have := h.1; have := h.2.1; omega
end Mine
end
section
open PySem
namespace Mine
theorem flags_ok {z : Int} (hz : 0 ≤ z ∧ z < 39402006196394479212279040100143613805079739270465446667948293404245721771497210611414266254884915640806627990306816) : ((z / 19701003098197239606139520050071806902539869635232723333974146702122860885748605305707133127442457820403313995153408 % 2 != 0) == decide (4 ≤ z / 4925250774549309901534880012517951725634967408808180833493536675530715221437151326426783281860614455100828498788352) && ((z / 9850501549098619803069760025035903451269934817616361666987073351061430442874302652853566563721228910201656997576704 % 2 != 0) == (z / 4925250774549309901534880012517951725634967408808180833493536675530715221437151326426783281860614455100828498788352 / 2 % 2 == 1) && (z / 4925250774549309901534880012517951725634967408808180833493536675530715221437151326426783281860614455100828498788352 % 2 != 0) == (z / 4925250774549309901534880012517951725634967408808180833493536675530715221437151326426783281860614455100828498788352 % 2 == 1))) = true := by
  have h0 : 0 ≤ z / 4925250774549309901534880012517951725634967408808180833493536675530715221437151326426783281860614455100828498788352 ∧ z / 4925250774549309901534880012517951725634967408808180833493536675530715221437151326426783281860614455100828498788352 ≤ 7 := by omega
  have e2 : z / 9850501549098619803069760025035903451269934817616361666987073351061430442874302652853566563721228910201656997576704 = z / 4925250774549309901534880012517951725634967408808180833493536675530715221437151326426783281860614455100828498788352 / 2 := by omega
  have e3 : z / 19701003098197239606139520050071806902539869635232723333974146702122860885748605305707133127442457820403313995153408 = z / 4925250774549309901534880012517951725634967408808180833493536675530715221437151326426783281860614455100828498788352 / 4 := by omega
  rw [e2, e3]
  generalize z / 4925250774549309901534880012517951725634967408808180833493536675530715221437151326426783281860614455100828498788352 = t at *
  have : t = 0 ∨ t = 1 ∨ t = 2 ∨ t = 3 ∨ t = 4 ∨ t = 5 ∨ t = 6 ∨ t = 7 := by omega
  rcases this with rfl | rfl | rfl | rfl | rfl | rfl | rfl | rfl <;> decide
theorem any45 {t : Int} : ([4, 5].any fun x => x == t) = true ↔ t = 4 ∨ t = 5 := by
  simp only [List.any_cons, List.any_nil, Bool.or_false, Bool.or_eq_true, beq_iff_eq]
  omega
section
variable {md sh z : Int}
theorem n_a (h : z % 4925250774549309901534880012517951725634967408808180833493536675530715221437151326426783281860614455100828498788352 = 0) (h' : (true != (z % 4925250774549309901534880012517951725634967408808180833493536675530715221437151326426783281860614455100828498788352 == 0)) = true) : False := by rw [h] at h'; exact absurd h' (by decide)
theorem n_b (h' : ((z % 4925250774549309901534880012517951725634967408808180833493536675530715221437151326426783281860614455100828498788352 == 0) != (z % 4925250774549309901534880012517951725634967408808180833493536675530715221437151326426783281860614455100828498788352 == 0)) = true) : False := by simp at h'
theorem n_c (tn : TN md sh z) (h : z / 4925250774549309901534880012517951725634967408808180833493536675530715221437151326426783281860614455100828498788352 = 6) (h' : z % 4925250774549309901534880012517951725634967408808180833493536675530715221437151326426783281860614455100828498788352 = 0) : False := tn.1 ⟨h, h'⟩
theorem sq_rng (hn : 1 < md) (h : ((z % 4925250774549309901534880012517951725634967408808180833493536675530715221437151326426783281860614455100828498788352) ^ Int.toNat 3 + sh) % md ≠ 0) : 0 < ((z % 4925250774549309901534880012517951725634967408808180833493536675530715221437151326426783281860614455100828498788352) ^ Int.toNat 3 + sh) % md ∧ ((z % 4925250774549309901534880012517951725634967408808180833493536675530715221437151326426783281860614455100828498788352) ^ Int.toNat 3 + sh) % md < md := by
  have e0 := Int.emod_nonneg ((z % 4925250774549309901534880012517951725634967408808180833493536675530715221437151326426783281860614455100828498788352) ^ Int.toNat 3 + sh) (show md ≠ 0 by omega)
  have e1 := Int.emod_lt_of_pos ((z % 4925250774549309901534880012517951725634967408808180833493536675530715221437151326426783281860614455100828498788352) ^ Int.toNat 3 + sh) (show 0 < md by omega)
  omega
theorem n_d (hn : 1 < md) (hE : EulerI md) (tn : TN md sh z) (ha : ([4, 5].any fun x => x == z / 4925250774549309901534880012517951725634967408808180833493536675530715221437151326426783281860614455100828498788352) = true) (hv : z % 4925250774549309901534880012517951725634967408808180833493536675530715221437151326426783281860614455100828498788352 ≠ 0) (hlt : z % 4925250774549309901534880012517951725634967408808180833493536675530715221437151326426783281860614455100828498788352 < md) (hs : ((z % 4925250774549309901534880012517951725634967408808180833493536675530715221437151326426783281860614455100828498788352) ^ Int.toNat 3 + sh) % md ≠ 0)
    (hp : ((Builtin.powMod (((z % 4925250774549309901534880012517951725634967408808180833493536675530715221437151326426783281860614455100828498788352) ^ Int.toNat 3 + sh) % md % md).toNat ((md - 1) / 2).toNat md.toNat : Nat) : Int) = 1) : False := by
  have r := sq_rng hn hs
  refine tn.2 (any45.mp ha) (by omega) hlt ?_
  exact (hE (sqI md sh (z % 4925250774549309901534880012517951725634967408808180833493536675530715221437151326426783281860614455100828498788352)) r.1 r.2).mpr hp
theorem s_eul (hn : 1 < md) (hE : EulerI md) (hs : ((z % 4925250774549309901534880012517951725634967408808180833493536675530715221437151326426783281860614455100828498788352) ^ Int.toNat 3 + sh) % md ≠ 0) (hc : chkI md (sqI md sh (z % 4925250774549309901534880012517951725634967408808180833493536675530715221437151326426783281860614455100828498788352)) = sqI md sh (z % 4925250774549309901534880012517951725634967408808180833493536675530715221437151326426783281860614455100828498788352)) :
    ((Builtin.powMod (((z % 4925250774549309901534880012517951725634967408808180833493536675530715221437151326426783281860614455100828498788352) ^ Int.toNat 3 + sh) % md % md).toNat ((md - 1) / 2).toNat md.toNat : Nat) : Int) = 1 := by
  have r := sq_rng hn hs
  exact (hE (sqI md sh (z % 4925250774549309901534880012517951725634967408808180833493536675530715221437151326426783281860614455100828498788352)) r.1 r.2).mp hc
theorem rng_e {a : Int} (h : 1 < md) : 0 ≤ a % md ∧ a % md < md := ⟨Int.emod_nonneg _ (by omega), Int.emod_lt_of_pos _ (by omega)⟩
/-- what is asked of the height -/
theorem s_height {Y : Int} (h : 1 < md) (hodd : md % 2 = 1) (hT : z / 4925250774549309901534880012517951725634967408808180833493536675530715221437151326426783281860614455100828498788352 = 4 ∨ z / 4925250774549309901534880012517951725634967408808180833493536675530715221437151326426783281860614455100828498788352 = 5) (hs : ((z % 4925250774549309901534880012517951725634967408808180833493536675530715221437151326426783281860614455100828498788352) ^ Int.toNat 3 + sh) % md ≠ 0) (hc : chkI md (sqI md sh (z % 4925250774549309901534880012517951725634967408808180833493536675530715221437151326426783281860614455100828498788352)) = sqI md sh (z % 4925250774549309901534880012517951725634967408808180833493536675530715221437151326426783281860614455100828498788352))
    (hY : (pwI md (sqI md sh (z % 4925250774549309901534880012517951725634967408808180833493536675530715221437151326426783281860614455100828498788352)) * 2 / md = z / 4925250774549309901534880012517951725634967408808180833493536675530715221437151326426783281860614455100828498788352 - 4 ∧ Y = pwI md (sqI md sh (z % 4925250774549309901534880012517951725634967408808180833493536675530715221437151326426783281860614455100828498788352)) % md) ∨ (pwI md (sqI md sh (z % 4925250774549309901534880012517951725634967408808180833493536675530715221437151326426783281860614455100828498788352)) * 2 / md ≠ z / 4925250774549309901534880012517951725634967408808180833493536675530715221437151326426783281860614455100828498788352 - 4 ∧ Y = (md - pwI md (sqI md sh (z % 4925250774549309901534880012517951725634967408808180833493536675530715221437151326426783281860614455100828498788352))) % md)) :
    (0 ≤ Y ∧ Y < md) ∧ Y * Y % md = ((z % 4925250774549309901534880012517951725634967408808180833493536675530715221437151326426783281860614455100828498788352) ^ Int.toNat 3 + sh) % md ∧ Y * 2 / md = z / 4925250774549309901534880012517951725634967408808180833493536675530715221437151326426783281860614455100828498788352 - 4 ∧ (decide (md / 2 < Y) != (z / 4925250774549309901534880012517951725634967408808180833493536675530715221437151326426783281860614455100828498788352 == 5)) = false := by
  obtain ⟨r, e1, e2, e3⟩ := height h hodd hs hc (show z / 4925250774549309901534880012517951725634967408808180833493536675530715221437151326426783281860614455100828498788352 - 4 = 0 ∨ z / 4925250774549309901534880012517951725634967408808180833493536675530715221437151326426783281860614455100828498788352 - 4 = 1 by omega) hY
  refine ⟨r, e1, e2, ?_⟩
  rw [e3]
  rcases hT with q | q <;> rw [q] <;> decide
theorem s_one {Y v : Int} (h : 1 < md) (hlt : 0 ≤ z % 4925250774549309901534880012517951725634967408808180833493536675530715221437151326426783281860614455100828498788352 ∧ z % 4925250774549309901534880012517951725634967408808180833493536675530715221437151326426783281860614455100828498788352 < md) (hY : 0 ≤ Y ∧ Y < md) (hf : Y * 2 / md = z / 4925250774549309901534880012517951725634967408808180833493536675530715221437151326426783281860614455100828498788352 - 4) (hv : CmpSpec md (z % 4925250774549309901534880012517951725634967408808180833493536675530715221437151326426783281860614455100828498788352) Y 1 v) : v = z :=
  cmp_one h (show z = z / 4925250774549309901534880012517951725634967408808180833493536675530715221437151326426783281860614455100828498788352 * 4925250774549309901534880012517951725634967408808180833493536675530715221437151326426783281860614455100828498788352 + z % 4925250774549309901534880012517951725634967408808180833493536675530715221437151326426783281860614455100828498788352 by omega) hlt hY hf hv
theorem s_back {Y sc v : Int} (h : 1 < md) (hlt : 0 ≤ z % 4925250774549309901534880012517951725634967408808180833493536675530715221437151326426783281860614455100828498788352 ∧ z % 4925250774549309901534880012517951725634967408808180833493536675530715221437151326426783281860614455100828498788352 < md) (hY : 0 ≤ Y ∧ Y < md) (hf : Y * 2 / md = z / 4925250774549309901534880012517951725634967408808180833493536675530715221437151326426783281860614455100828498788352 - 4) (hsc : 0 ≤ sc ∧ sc < md) (h0 : sc ≠ 0) (hv : CmpSpec md (z % 4925250774549309901534880012517951725634967408808180833493536675530715221437151326426783281860614455100828498788352 * sc % md) (Y * sc % md) (sc % md) v) : v = z :=
  cmp_back h (show z = z / 4925250774549309901534880012517951725634967408808180833493536675530715221437151326426783281860614455100828498788352 * 4925250774549309901534880012517951725634967408808180833493536675530715221437151326426783281860614455100828498788352 + z % 4925250774549309901534880012517951725634967408808180833493536675530715221437151326426783281860614455100828498788352 by omega) hlt hY hf (by rw [Int.emod_eq_of_lt hsc.1 hsc.2]; exact h0) hv
theorem s_inf {X Y v : Int} (hT : z / 4925250774549309901534880012517951725634967408808180833493536675530715221437151326426783281860614455100828498788352 = 6) (hV : z % 4925250774549309901534880012517951725634967408808180833493536675530715221437151326426783281860614455100828498788352 = 0) (hv : CmpSpec md X Y (0 % md) v) : v = z := by
  rw [cmp_inf hv]; omega
end
end Mine
end
section
open PySem PySem.W PySem.Spec PySem.Calls PyProof.Rows
set_option Elab.async false
set_option maxRecDepth 100000
set_option maxHeartbeats 8000000
namespace Mine
local macro_rules | `(tactic| walk_at "binaryOp Mod int int") => `(tactic| (with_reducible refine mod_e ?kmp ?_; (case kmp => first | assumption | decide | omega | mul_fits)))
local macro_rules | `(tactic| walk_at "inplaceOp Mod int int") => `(tactic| (with_reducible refine imod_e ?kmp ?_; (case kmp => first | assumption | decide | omega | mul_fits)))
local macro_rules | `(tactic| walk_at "binaryOp FloorDiv int int") => `(tactic| (with_reducible refine div_e ?kmp ?kmq ?_; (case kmp => first | assumption | decide | omega | mul_fits); (case kmq => first | assumption | (unfold Bnd; omega) | decide | mul_fits)))
local macro_rules | `(tactic| walk_at "binaryOp Mult int int") => `(tactic| (with_reducible refine mul_e ?kmp ?kmq ?_; (case kmp => first | assumption | mul_fits | (unfold Bnd at *; omega)); (case kmq => first | assumption | mul_fits | (unfold Bnd at *; omega))))
local macro_rules | `(tactic| k_enter) => `(tactic| (refine' code_def ?k1 ?k2 ?k3 ?k4 ?k5 ?kA ?kF ?kK ?k6 ?k7 ?k8 ?k9 ?kB ?_ ?c2 ?c3 ?c4 ?c5; (case kA => exact rfl); (case kF => exact rfl); (case kK => first | exact rfl | assumption); (case k1 => k_asm); (case k2 => k_asm); (case k3 => k_asm); (case k4 => k_asm); (case k5 => k_asm); (case k6 => k_is); (case k7 => k_is); (case k8 => ktr_room); (case k9 => first | exact BindsTo.of_eq rfl | exact binds_K (by k_in) rfl (by k_is) rfl rfl rfl); (case c5 => decide); (case kB => exact locs rfl); (case c2 => exact rfl); (case c3 => exact rfl); (case c4 => exact rfl); k_whole; intro g' L' h' FG' F' N' B' X' T'; (try dsimp only); (try k_lift B'); (try k_fold)))
local macro_rules | `(tactic| walk_at "call ref") => `(tactic| (k_here; k_dflt (refine' Con.use (Tag.out (c_inv _ _ _ _ _ _ ?p1 ?p2 ?p3)) ?k1 ?k2 ?k3 ?k4 ?k5 ?kK ?kd ?ku ?_; (case k1 => k_asm); (case k2 => k_asm); (case k3 => k_asm); (case k4 => k_asm); (case k5 => k_asm); (case kK => first | exact rfl | assumption); (case p1 => first | assumption | omega); (case p2 => assumption); (case p3 => assumption); (case kd => ktr_room); (case ku => ktr_units); k_whole; intro r9 t9 h9 tk9 hr1 hr2 hr3 F9 N9; (try dsimp only [PySem.W.CmpBack]); (try dsimp only); (try k_sweep); (try k_fold))))
local macro_rules | `(tactic| walk_at "call ref") => `(tactic| (k_here; k_dflt (refine' Con.use (Tag.out (c_fq _ _ _ _ _ _ ?p1)) ?k1 ?k2 ?k3 ?k4 ?k5 ?kK ?kd ?ku ?_; (case k1 => k_asm); (case k2 => k_asm); (case k3 => k_asm); (case k4 => k_asm); (case k5 => k_asm); (case kK => first | exact rfl | assumption); (case p1 => first | assumption | omega); (case kd => ktr_room); (case ku => ktr_units); k_whole; intro x9 dx9 t91 t92 u91 u92 h9 tk9 F9 N9 l91 l92; (try k_lt l91); (try k_lt2 l92); (try dsimp only [PySem.W.CmpBack]); (try dsimp only); (try k_sweep); (try k_fold))))

local macro_rules | `(tactic| walk_at "call ref") => `(tactic| (k_here; (with_reducible show wpAny _ _ (call (Value.ref 141) _) _ _ _); k_dflt (refine' Con.use (Tag.out (c_div ?q1 ?q2 ?q3 ?q4 ?p1 ?p2 ?p3 ?p4)) ?k1 ?k2 ?k3 ?k4 ?k5 ?kK ?kd ?ku ?_; (case k1 => k_asm); (case k2 => k_asm); (case k3 => k_asm); (case k4 => k_asm); (case k5 => k_asm); (case kK => first | exact rfl | assumption); (case q1 => k_mem); (case q2 => k_mem); (case q3 => k_mem); (case q4 => k_mem); (case p1 => first | assumption | omega); (case p2 => assumption); (case p3 => first | assumption | exact PrimeI.cop0 (by assumption) (by assumption) (by assumption) | mul_fits); (case p4 => first | assumption | mul_fits); (case kd => ktr_room); (case ku => ktr_units); k_whole; intro r9 hr1 hr2 hr3 x9 dx9 t91 t92 u91 u92 h9 tk9 F9 N9 l91 l92; (try k_lt l91); (try k_lt2 l92); (try dsimp only [PySem.W.CmpBack]); (try dsimp only); (try k_sweep); (try k_fold))))
local macro_rules | `(tactic| mul_fits) => `(tactic| first | exact Bnd.emod (by assumption) (by assumption) | exact Bnd.flag (by assumption))
local macro_rules | `(tactic| k_mem) => `(tactic| ((repeat (with_reducible refine List.mem_cons_of_mem _ ?_)); ktr_member))
local macro_rules | `(tactic| k_units) => `(tactic| ((simp only [units_in1, units_deeper, Around.mark_units]); omega))
local macro_rules | `(tactic| walk_at "binaryOp Div") => `(tactic| (k_here; (with_reducible show wpAny _ _ (binaryOp _ (Value.ref _) (Value.ref _)) _ _ _); k_dflt (refine' binop_K ?k1 ?k2 ?k3 ?k4 ?k5 ?k6 ?k7 ?_; (case k1 => k_asm); (case k2 => k_asm); (case k3 => k_inst); (case k4 => k_typeOf); (case k5 => k_is); (case k6 => k_is); (case k7 => k_is); k_whole)))
local macro_rules | `(tactic| walk_at "call builtin:pow") => `(tactic| ((with_reducible show wpAny _ _ (call (Value.builtin _) [Value.int _ _, Value.int _ _, Value.int _ _]) _ _ _); refine call_pow3 ?kpe ?kpm ?_; (case kpe => first | assumption | omega); (case kpm => first | assumption | omega); (try dsimp only)))
local macro_rules | `(tactic| walk_at "binaryOp Pow int int") => `(tactic| (with_reducible refine pow_e ?kpe ?kpm ?kpb ?_; (case kpe => first | assumption | decide); (case kpm => first | assumption | decide); (case kpb => first | assumption | mul_fits | (unfold Bnd at *; omega))))
local macro_rules | `(tactic| walk_at "binaryOp RShift int int") => `(tactic| first
  | (with_reducible refine shr_e (k := 19701003098197239606139520050071806902539869635232723333974146702122860885748605305707133127442457820403313995153408) ?kpe ?kpm ?_; (case kpe => decide); (case kpm => decide +kernel))
  | (with_reducible refine shr_e (k := 9850501549098619803069760025035903451269934817616361666987073351061430442874302652853566563721228910201656997576704) ?kpe ?kpm ?_; (case kpe => decide); (case kpm => decide +kernel))
  | (with_reducible refine shr_e (k := 4925250774549309901534880012517951725634967408808180833493536675530715221437151326426783281860614455100828498788352) ?kpe ?kpm ?_; (case kpe => decide); (case kpm => decide +kernel)))
local macro_rules | `(tactic| walk_at "binaryOp BitAnd int int") => `(tactic| (with_reducible refine and1_e ?kpe ?_; (case kpe => omega)))
local macro_rules | `(tactic| walk_at "LeaveT") => `(tactic| (k_dflt (refine' leaveT_ ?F ?N ?T ?_; (case F => k_asm); (case N => k_asm); (case T => first | assumption | exact KtsTurn.refl); k_whole); intro kg9 kB9; (try dsimp only [InitBack, PySem.W.CmpBack])))
local macro_rules | `(tactic| walk_at "binaryOp Pow int int") => `(tactic| ((with_reducible show wpAny _ _ (binaryOp _ (Value.int 2 _) (Value.int _ _)) _ _ _); first
  | (with_reducible refine pow_lit (k := 4925250774549309901534880012517951725634967408808180833493536675530715221437151326426783281860614455100828498788352) ?kpe ?kpm bnd2 ?kpk ?_; (case kpe => decide); (case kpm => decide); (case kpk => decide +kernel))
  | (with_reducible refine pow_lit (k := 39402006196394479212279040100143613805079739270465446667948293404245721771497210611414266254884915640806627990306816) ?kpe ?kpm bnd2 ?kpk ?_; (case kpe => decide); (case kpm => decide); (case kpk => decide +kernel))))

local macro_rules | `(tactic| walk_at "call ref") => `(tactic| ((with_reducible show wpAny _ _ (call (Value.ref 252) _) _ _ _); refine Hold.out ?_))
local macro_rules | `(tactic| walk_at "call ref") => `(tactic| (k_here; (with_reducible show wpAny _ _ (call (Value.ref 57) _) _ _ _); k_dflt (refine' Con.use (Tag.out (c_cmp ?q1 ?q2 ?q3 ?q4 ?q5 ?q6 ?q7 ?q8 ?q9 ?p1 ?p2 ?p3 ?p4 ?p5)) ?k1 ?k2 ?k3 ?k4 ?k5 ?kK ?kd ?ku ?_; (case k1 => k_asm); (case k2 => k_asm); (case k3 => k_asm); (case k4 => k_asm); (case k5 => k_asm); (case kK => first | exact rfl | assumption); (case q1 => k_mem); (case q2 => k_mem); (case q3 => k_mem); (case q4 => k_mem); (case q5 => k_mem); (case q6 => k_mem); (case q7 => k_mem); (case q8 => k_mem); (case q9 => k_mem); (case p1 => assumption); (case p2 => assumption); (case p3 => first | assumption | exact rng_e (by assumption) | omega); (case p4 => first | assumption | exact rng_e (by assumption) | omega); (case p5 => first | assumption | exact rng_e (by assumption) | omega); (case kd => ktr_room); (case ku => ktr_units); k_whole; intro v9 t9 h9 tk9 hv9 F9 N9; (try dsimp only [PySem.W.CmpBack]); (try dsimp only); (try k_sweep); (try k_fold))))
local macro_rules | `(tactic| mul_fits) => `(tactic| (unfold Bnd; omega))
theorem c_right {w : World} {md z sh sc : Int} {tz t1 t2 t3 : Tok} {news : List (Addr × Obj)}
    (hp : PrimeI md) (hE : EulerI md) (hodd : md % 2 = 1) (hnB : md < 4925250774549309901534880012517951725634967408808180833493536675530715221437151326426783281860614455100828498788352) (hsh : 0 < sh ∧ sh < md) (hsc : 0 ≤ sc ∧ sc < md) (hz : 0 ≤ z ∧ z < 39402006196394479212279040100143613805079739270465446667948293404245721771497210611414266254884915640806627990306816) : Tag PySem.Challenge.rw_kh0009_01 hd.heap_39
    (ConT w 12 259 [.int z tz, .int sh t1, .int sc t2, .int md t3] news fun Bk s Q =>
      ∀ (h₀' h' : Heap) (tk' : Nat), Bk h₀' h' news → Q (.bool true) { s with heap := h', toks := tk' }) := by
  w_top off
  k_with_none
  k_fill
  unfold Tag
  intro mean mg mb dp un gd cn cs a1 ccd cl outer A₀ base h₀ L m s Q E B F X1 N T hk XB TB DD hdp hun hret
  have hn1 : 1 < md := hp.1
  have hB1 : Bnd md := by unfold Bnd; omega
  refine wpAny_call ?_
  k_dflt (refine' enterT ?k1 ?k2 ?k3 ?k4 ?k5 ?XB ?TB ?D ?kA ?kF ?kK ?k6 ?k7 ?k8 ?k9 ?kB ?_ ?c2 ?c3 ?c4 ?c5; (case kA => exact rfl); (case kF => exact rfl); (case kK => first | exact rfl | assumption); (case k1 => k_asm); (case k2 => k_asm); (case k3 => k_asm); (case k4 => k_asm); (case k5 => k_asm); (case XB => assumption); (case TB => assumption); (case D => assumption); (case k6 => k_is); (case k7 => k_is); (case k8 => ktr_room); (case k9 => exact BindsTo.of_eq rfl); (case c5 => decide); (case kB => exact locs rfl); (case c2 => exact rfl); (case c3 => exact rfl); (case c4 => exact rfl); k_whole; intro g' L' h' FG' F' N' B' X' T' D'; (try dsimp only); (try k_fold))
  k_steps
  with_reducible rename News _ _ _ ((_, instObj 229 _) :: _) => nn
  rw [Int.emod_eq_of_lt (Int.le_of_lt hsh.1) hsh.2] at nn
  refine Hold.out ?_
  unfold Hold
  k_dflt (refine' ConT.use (Tag.out (c_told ?q1 ?q2 hp hnB ?q3 hz)) ?k1 ?k2 ?k3 ?k4 ?k5 ?kK ?XB ?TB ?D ?kd ?ku ?kr; (case k1 => exact B'); (case k2 => k_asm); (case k3 => exact X'); (case k4 => exact nn); (case k5 => exact T'); (case kK => exact rfl); (case XB => exact XB); (case TB => exact TB); (case D => exact D'); (case q1 => exact .head _); (case q2 => exact .tail _ (.head _)); (case q3 => omega); (case kd => ktr_room); (case ku => ktr_units))
  have hfl := flags_ok hz
  have hV0 : 0 ≤ z % 4925250774549309901534880012517951725634967408808180833493536675530715221437151326426783281860614455100828498788352 := Int.emod_nonneg _ (by decide)
  refine ⟨fun h0 h1 tk tn bk => ?_, fun h0 h1 tk X Y Z D x dx y dy v dv t1 t2 u1 u2 t3 t4 u3 u4 t5 t6 u5 u6 ts bk => ?_⟩
  · obtain ⟨KT, KF, KN, KB, KX, KTop, KD⟩ := bk
    clear B' X' T' D' FG' nn
    try dsimp only
    try k_sweep
    try k_fold
    k_steps
    all_goals first
      | exact hret _ _ _ (Back.drop (by assumption) (fun p hp => by (repeat (first | exact hp | refine List.Mem.tail _ ?_))))
      | exact (n_a (by assumption) (by assumption)).elim
      | exact (n_b (by assumption)).elim
      | exact (n_c (by assumption) (by assumption) (by assumption)).elim
      | (exfalso; contradiction)
      | (have e9 := s_inf hT hV (by assumption); rw [e9, beq_self_eq_true]; exact hret _ _ _ (Back.drop (by assumption) (fun p hp => by (repeat (first | exact hp | refine List.Mem.tail _ ?_)))))
      | exact absurd (s_one hn1 ⟨hV0, hVlt⟩ hYr hYf (by assumption)) (by assumption)
      | (have e9 := s_back hn1 ⟨hV0, hVlt⟩ hYr hYf hsc (by assumption) (by assumption); rw [e9, beq_self_eq_true]; exact hret _ _ _ (Back.drop (by assumption) (fun p hp => by (repeat (first | exact hp | refine List.Mem.tail _ ?_)))))
      | exact (n_d hn1 hE (by assumption) (by assumption) (by assumption) (by assumption) (by assumption) (by assumption)).elim
  · obtain ⟨KT, KF, KN, KB, KX, KTop, KD⟩ := bk
    clear B' X' T' D' FG' nn
    rcases ts with ⟨hT, hV, rfl, rfl, rfl⟩ | ⟨hT, hVp, hVlt, hc, eX, eZ, hY⟩
    · have hVb : (z % 4925250774549309901534880012517951725634967408808180833493536675530715221437151326426783281860614455100828498788352 == 0) = true := by rw [hV]; rfl
      have hVc : (true != (z % 4925250774549309901534880012517951725634967408808180833493536675530715221437151326426783281860614455100828498788352 == 0)) = false := by rw [hV]; rfl
      try dsimp only
      try k_sweep
      try k_fold
      k_steps
      all_goals first
        | exact hret _ _ _ (Back.drop (by assumption) (fun p hp => by (repeat (first | exact hp | refine List.Mem.tail _ ?_))))
        | exact (n_a (by assumption) (by assumption)).elim
        | exact (n_b (by assumption)).elim
        | exact (n_c (by assumption) (by assumption) (by assumption)).elim
        | (exfalso; contradiction)
        | (have e9 := s_inf hT hV (by assumption); rw [e9, beq_self_eq_true]; exact hret _ _ _ (Back.drop (by assumption) (fun p hp => by (repeat (first | exact hp | refine List.Mem.tail _ ?_)))))
        | exact absurd (s_one hn1 ⟨hV0, hVlt⟩ hYr hYf (by assumption)) (by assumption)
        | (have e9 := s_back hn1 ⟨hV0, hVlt⟩ hYr hYf hsc (by assumption) (by assumption); rw [e9, beq_self_eq_true]; exact hret _ _ _ (Back.drop (by assumption) (fun p hp => by (repeat (first | exact hp | refine List.Mem.tail _ ?_)))))
        | exact (n_d hn1 hE (by assumption) (by assumption) (by assumption) (by assumption) (by assumption) (by assumption)).elim
    · have hVn : z % 4925250774549309901534880012517951725634967408808180833493536675530715221437151326426783281860614455100828498788352 ≠ 0 := by omega
      have hVb : (z % 4925250774549309901534880012517951725634967408808180833493536675530715221437151326426783281860614455100828498788352 == 0) = false := by simpa using hVn
      have hVc : ((z % 4925250774549309901534880012517951725634967408808180833493536675530715221437151326426783281860614455100828498788352 == 0) != (z % 4925250774549309901534880012517951725634967408808180833493536675530715221437151326426783281860614455100828498788352 == 0)) = false := by simp
      have h6 : z / 4925250774549309901534880012517951725634967408808180833493536675530715221437151326426783281860614455100828498788352 ≠ 6 := by omega
      have h45 := any45.mpr hT
      rw [Int.emod_eq_of_lt hV0 hVlt] at eX
      rw [Int.emod_eq_of_lt (by decide) hn1] at eZ
      subst eX eZ
      by_cases hs : ((z % 4925250774549309901534880012517951725634967408808180833493536675530715221437151326426783281860614455100828498788352) ^ Int.toNat 3 + sh) % md = 0
      · try dsimp only
        try k_sweep
        try k_fold
        k_steps
        all_goals first
          | exact hret _ _ _ (Back.drop (by assumption) (fun p hp => by (repeat (first | exact hp | refine List.Mem.tail _ ?_))))
          | exact (n_a (by assumption) (by assumption)).elim
          | exact (n_b (by assumption)).elim
          | exact (n_c (by assumption) (by assumption) (by assumption)).elim
          | (exfalso; contradiction)
          | (have e9 := s_inf hT hV (by assumption); rw [e9, beq_self_eq_true]; exact hret _ _ _ (Back.drop (by assumption) (fun p hp => by (repeat (first | exact hp | refine List.Mem.tail _ ?_)))))
          | exact absurd (s_one hn1 ⟨hV0, hVlt⟩ hYr hYf (by assumption)) (by assumption)
          | (have e9 := s_back hn1 ⟨hV0, hVlt⟩ hYr hYf hsc (by assumption) (by assumption); rw [e9, beq_self_eq_true]; exact hret _ _ _ (Back.drop (by assumption) (fun p hp => by (repeat (first | exact hp | refine List.Mem.tail _ ?_)))))
          | exact (n_d hn1 hE (by assumption) (by assumption) (by assumption) (by assumption) (by assumption) (by assumption)).elim
      · obtain ⟨hYr, hYs, hYf, hYd⟩ := s_height hn1 hodd hT hs hc hY
        have he := s_eul hn1 hE hs hc
        try dsimp only
        try k_sweep
        try k_fold
        k_steps
        all_goals first
          | exact hret _ _ _ (Back.drop (by assumption) (fun p hp => by (repeat (first | exact hp | refine List.Mem.tail _ ?_))))
          | exact (n_a (by assumption) (by assumption)).elim
          | exact (n_b (by assumption)).elim
          | exact (n_c (by assumption) (by assumption) (by assumption)).elim
          | (exfalso; contradiction)
          | (have e9 := s_inf hT hV (by assumption); rw [e9, beq_self_eq_true]; exact hret _ _ _ (Back.drop (by assumption) (fun p hp => by (repeat (first | exact hp | refine List.Mem.tail _ ?_)))))
          | exact absurd (s_one hn1 ⟨hV0, hVlt⟩ hYr hYf (by assumption)) (by assumption)
          | (have e9 := s_back hn1 ⟨hV0, hVlt⟩ hYr hYf hsc (by assumption) (by assumption); rw [e9, beq_self_eq_true]; exact hret _ _ _ (Back.drop (by assumption) (fun p hp => by (repeat (first | exact hp | refine List.Mem.tail _ ?_)))))
          | exact (n_d hn1 hE (by assumption) (by assumption) (by assumption) (by assumption) (by assumption) (by assumption)).elim
end Mine
end
section
open PySem PySem.W PySem.Spec PySem.Calls PyProof.Rows
set_option Elab.async false
set_option maxRecDepth 100000
set_option maxHeartbeats 8000000
namespace Mine
local macro_rules | `(tactic| walk_at "binaryOp Mod int int") => `(tactic| (with_reducible refine mod_e ?kmp ?_; (case kmp => first | assumption | decide | omega | mul_fits)))
local macro_rules | `(tactic| walk_at "inplaceOp Mod int int") => `(tactic| (with_reducible refine imod_e ?kmp ?_; (case kmp => first | assumption | decide | omega | mul_fits)))
local macro_rules | `(tactic| walk_at "binaryOp FloorDiv int int") => `(tactic| (with_reducible refine div_e ?kmp ?kmq ?_; (case kmp => first | assumption | decide | omega | mul_fits); (case kmq => first | assumption | (unfold Bnd; omega) | decide | mul_fits)))
local macro_rules | `(tactic| walk_at "binaryOp Mult int int") => `(tactic| (with_reducible refine mul_e ?kmp ?kmq ?_; (case kmp => first | assumption | mul_fits | (unfold Bnd at *; omega)); (case kmq => first | assumption | mul_fits | (unfold Bnd at *; omega))))
local macro_rules | `(tactic| k_enter) => `(tactic| (refine' code_def ?k1 ?k2 ?k3 ?k4 ?k5 ?kA ?kF ?kK ?k6 ?k7 ?k8 ?k9 ?kB ?_ ?c2 ?c3 ?c4 ?c5; (case kA => exact rfl); (case kF => exact rfl); (case kK => first | exact rfl | assumption); (case k1 => k_asm); (case k2 => k_asm); (case k3 => k_asm); (case k4 => k_asm); (case k5 => k_asm); (case k6 => k_is); (case k7 => k_is); (case k8 => ktr_room); (case k9 => first | exact BindsTo.of_eq rfl | exact binds_K (by k_in) rfl (by k_is) rfl rfl rfl); (case c5 => decide); (case kB => exact locs rfl); (case c2 => exact rfl); (case c3 => exact rfl); (case c4 => exact rfl); k_whole; intro g' L' h' FG' F' N' B' X' T'; (try dsimp only); (try k_lift B'); (try k_fold)))
local macro_rules | `(tactic| walk_at "call ref") => `(tactic| (k_here; k_dflt (refine' Con.use (Tag.out (c_inv _ _ _ _ _ _ ?p1 ?p2 ?p3)) ?k1 ?k2 ?k3 ?k4 ?k5 ?kK ?kd ?ku ?_; (case k1 => k_asm); (case k2 => k_asm); (case k3 => k_asm); (case k4 => k_asm); (case k5 => k_asm); (case kK => first | exact rfl | assumption); (case p1 => first | assumption | omega); (case p2 => assumption); (case p3 => assumption); (case kd => ktr_room); (case ku => ktr_units); k_whole; intro r9 t9 h9 tk9 hr1 hr2 hr3 F9 N9; (try dsimp only [PySem.W.CmpBack]); (try dsimp only); (try k_sweep); (try k_fold))))
local macro_rules | `(tactic| walk_at "call ref") => `(tactic| (k_here; k_dflt (refine' Con.use (Tag.out (c_fq _ _ _ _ _ _ ?p1)) ?k1 ?k2 ?k3 ?k4 ?k5 ?kK ?kd ?ku ?_; (case k1 => k_asm); (case k2 => k_asm); (case k3 => k_asm); (case k4 => k_asm); (case k5 => k_asm); (case kK => first | exact rfl | assumption); (case p1 => first | assumption | omega); (case kd => ktr_room); (case ku => ktr_units); k_whole; intro x9 dx9 t91 t92 u91 u92 h9 tk9 F9 N9 l91 l92; (try k_lt l91); (try k_lt2 l92); (try dsimp only [PySem.W.CmpBack]); (try dsimp only); (try k_sweep); (try k_fold))))

local macro_rules | `(tactic| walk_at "call ref") => `(tactic| (k_here; (with_reducible show wpAny _ _ (call (Value.ref 141) _) _ _ _); k_dflt (refine' Con.use (Tag.out (c_div ?q1 ?q2 ?q3 ?q4 ?p1 ?p2 ?p3 ?p4)) ?k1 ?k2 ?k3 ?k4 ?k5 ?kK ?kd ?ku ?_; (case k1 => k_asm); (case k2 => k_asm); (case k3 => k_asm); (case k4 => k_asm); (case k5 => k_asm); (case kK => first | exact rfl | assumption); (case q1 => k_mem); (case q2 => k_mem); (case q3 => k_mem); (case q4 => k_mem); (case p1 => first | assumption | omega); (case p2 => assumption); (case p3 => first | assumption | exact PrimeI.cop0 (by assumption) (by assumption) (by assumption) | mul_fits); (case p4 => first | assumption | mul_fits); (case kd => ktr_room); (case ku => ktr_units); k_whole; intro r9 hr1 hr2 hr3 x9 dx9 t91 t92 u91 u92 h9 tk9 F9 N9 l91 l92; (try k_lt l91); (try k_lt2 l92); (try dsimp only [PySem.W.CmpBack]); (try dsimp only); (try k_sweep); (try k_fold))))
local macro_rules | `(tactic| mul_fits) => `(tactic| first | exact Bnd.emod (by assumption) (by assumption) | exact Bnd.flag (by assumption))
local macro_rules | `(tactic| k_mem) => `(tactic| ((repeat (with_reducible refine List.mem_cons_of_mem _ ?_)); ktr_member))
local macro_rules | `(tactic| k_units) => `(tactic| ((simp only [units_in1, units_deeper, Around.mark_units]); omega))
local macro_rules | `(tactic| walk_at "binaryOp Div") => `(tactic| (k_here; (with_reducible show wpAny _ _ (binaryOp _ (Value.ref _) (Value.ref _)) _ _ _); k_dflt (refine' binop_K ?k1 ?k2 ?k3 ?k4 ?k5 ?k6 ?k7 ?_; (case k1 => k_asm); (case k2 => k_asm); (case k3 => k_inst); (case k4 => k_typeOf); (case k5 => k_is); (case k6 => k_is); (case k7 => k_is); k_whole)))
local macro_rules | `(tactic| walk_at "call builtin:pow") => `(tactic| ((with_reducible show wpAny _ _ (call (Value.builtin _) [Value.int _ _, Value.int _ _, Value.int _ _]) _ _ _); refine call_pow3 ?kpe ?kpm ?_; (case kpe => first | assumption | omega); (case kpm => first | assumption | omega); (try dsimp only)))
local macro_rules | `(tactic| walk_at "binaryOp Pow int int") => `(tactic| (with_reducible refine pow_e ?kpe ?kpm ?kpb ?_; (case kpe => first | assumption | decide); (case kpm => first | assumption | decide); (case kpb => first | assumption | mul_fits | (unfold Bnd at *; omega))))
local macro_rules | `(tactic| walk_at "binaryOp RShift int int") => `(tactic| first
  | (with_reducible refine shr_e (k := 19701003098197239606139520050071806902539869635232723333974146702122860885748605305707133127442457820403313995153408) ?kpe ?kpm ?_; (case kpe => decide); (case kpm => decide +kernel))
  | (with_reducible refine shr_e (k := 9850501549098619803069760025035903451269934817616361666987073351061430442874302652853566563721228910201656997576704) ?kpe ?kpm ?_; (case kpe => decide); (case kpm => decide +kernel))
  | (with_reducible refine shr_e (k := 4925250774549309901534880012517951725634967408808180833493536675530715221437151326426783281860614455100828498788352) ?kpe ?kpm ?_; (case kpe => decide); (case kpm => decide +kernel)))
local macro_rules | `(tactic| walk_at "binaryOp BitAnd int int") => `(tactic| (with_reducible refine and1_e ?kpe ?_; (case kpe => omega)))
local macro_rules | `(tactic| walk_at "LeaveT") => `(tactic| (k_dflt (refine' leaveT_ ?F ?N ?T ?_; (case F => k_asm); (case N => k_asm); (case T => first | assumption | exact KtsTurn.refl); k_whole); intro kg9 kB9; (try dsimp only [InitBack, PySem.W.CmpBack])))
local macro_rules | `(tactic| walk_at "binaryOp Pow int int") => `(tactic| ((with_reducible show wpAny _ _ (binaryOp _ (Value.int 2 _) (Value.int _ _)) _ _ _); first
  | (with_reducible refine pow_lit (k := 4925250774549309901534880012517951725634967408808180833493536675530715221437151326426783281860614455100828498788352) ?kpe ?kpm bnd2 ?kpk ?_; (case kpe => decide); (case kpm => decide); (case kpk => decide +kernel))
  | (with_reducible refine pow_lit (k := 39402006196394479212279040100143613805079739270465446667948293404245721771497210611414266254884915640806627990306816) ?kpe ?kpm bnd2 ?kpk ?_; (case kpe => decide); (case kpm => decide); (case kpk => decide +kernel))))

theorem mod_b {prog : Program} {w : World} {A : Around} {E : Value → Shared → Prop} {s : Shared} {a b : Int} {t u : Tok} {Q : Value → Shared → Prop} (hb : 0 < b) (h : ∀ r, 0 ≤ r → r < b → Q (.int r s.toks) { s with toks := s.toks + 1 }) : wpAny (model prog w) A (binaryOp .Mod (.int a t) (.int b u)) Q E s :=
  mod_e hb (h _ (Int.emod_nonneg _ (by omega)) (Int.emod_lt_of_pos _ hb))
local macro_rules | `(tactic| walk_at "binaryOp Mod int int") => `(tactic| ((with_reducible refine mod_b ?kmp ?_); (case kmp => omega); intro r9 hr91 hr92; (try dsimp only)))
local macro_rules | `(tactic| walk_at "call ref") => `(tactic| (k_here; (with_reducible show wpAny _ _ (call (Value.ref 238) _) _ _ _); k_dflt (refine' Con.use (Tag.out c_prime) ?k1 ?k2 ?k3 ?k4 ?k5 ?kK ?kd ?ku ?_; (case k1 => k_asm); (case k2 => k_asm); (case k3 => k_asm); (case k4 => k_asm); (case k5 => k_asm); (case kK => first | exact rfl | assumption); (case kd => ktr_room); (case ku => ktr_units); k_whole; intro v9 t9 h9 tk9 hv9 F9 N9; have hr9 := LawP.rng hv9; (try dsimp only [PySem.W.CmpBack]); (try dsimp only); (try k_sweep); (try k_fold))))
local macro_rules | `(tactic| walk_at "call ref") => `(tactic| (k_here; (with_reducible show wpAny _ _ (call (Value.ref 245) _) _ _ _); k_dflt (refine' Con.use (Tag.out (c_drawn ?p1 ?p2)) ?k1 ?k2 ?k3 ?k4 ?k5 ?kK ?kd ?ku ?_; (case k1 => k_asm); (case k2 => k_asm); (case k3 => k_asm); (case k4 => k_asm); (case k5 => k_asm); (case kK => first | exact rfl | assumption); (case p1 => omega); (case p2 => omega); (case kd => ktr_room); (case ku => ktr_units); k_whole; intro v9 t9 h9 tk9 hz9 F9 N9; (try dsimp only [PySem.W.CmpBack]); (try dsimp only); (try k_sweep); (try k_fold))))
local macro_rules | `(tactic| walk_at "call ref") => `(tactic| (k_here; (with_reducible show wpAny _ _ (call (Value.ref 259) _) _ _ _); k_dflt (refine' ConT.use (Tag.out (c_right ?p1 ?p2 ?p3 ?p4 ?p5 ?p6 ?p7)) ?k1 ?k2 ?k3 ?k4 ?k5 ?kK ?XB ?TB ?D ?kd ?ku ?_; (case k1 => k_asm); (case k2 => k_asm); (case k3 => k_asm); (case k4 => k_asm); (case k5 => k_asm); (case kK => first | exact rfl | assumption); (case XB => k_asm); (case TB => k_asm); (case D => exact ktsDicts_nil); (case p1 => exact LawP.prime (by assumption)); (case p2 => exact LawP.euler (by assumption)); (case p3 => exact LawP.odd (by assumption)); (case p4 => omega); (case p5 => omega); (case p6 => omega); (case p7 => assumption); (case kd => ktr_room); (case ku => ktr_units); k_whole; intro g9 h9 tk9 bk9; obtain ⟨F9, N9⟩ := Back.flat bk9; clear bk9; (try dsimp only [PySem.W.CmpBack]); (try dsimp only); (try k_sweep); (try k_fold))))
local macro_rules | `(tactic| walk_at "call ref") => `(tactic| (k_here; (with_reducible show wpAny _ _ (call (Value.ref 252) _) _ _ _); k_dflt (refine' ConT.use (Tag.out (c_told ?q1 ?q2 ?p1 ?p4 ?p5 ?p7)) ?k1 ?k2 ?k3 ?k4 ?k5 ?kK ?XB ?TB ?D ?kd ?ku ?_; (case k1 => k_asm); (case k2 => k_asm); (case k3 => k_asm); (case k4 => k_asm); (case k5 => k_asm); (case kK => first | exact rfl | assumption); (case XB => k_asm); (case TB => k_asm); (case D => exact ktsDicts_nil); (case q1 => k_mem); (case q2 => k_mem); (case p1 => exact LawP.prime (by assumption)); (case p4 => omega); (case p5 => exact rng_e (by omega)); (case p7 => assumption); (case kd => ktr_room); (case ku => ktr_units); k_whole; refine ⟨?_, ?_⟩ <;> first
  | (intro g9 h9 tk9 tn9 bk9; obtain ⟨F9, N9⟩ := Back.flat bk9; clear bk9 tn9; (try dsimp only [PySem.W.CmpBack]); (try dsimp only); (try k_sweep); (try k_fold))
  | (intro g9 h9 tk9 X9 Y9 Z9 D9 x9 dx9 y9 dy9 v9 dv9 t91 t92 u91 u92 t93 t94 u93 u94 t95 t96 u95 u96 ts9 bk9; obtain ⟨F9, N9⟩ := Back.flat bk9; clear bk9 ts9; (try dsimp only [PySem.W.CmpBack]); (try dsimp only); (try k_sweep); (try k_fold)))))
theorem law_holds : PySem.Challenge.rw_kh0009_01.Holds := hd (by
  k_with_none
  (k_with "pyIter ref" => k_state_given ["prime"] (fun md _ sc => 0 ≤ sc ∧ sc < md) "scale")
  k_go0
  (all_goals try k_fold)
  k_steps
  done)
end Mine
end
set_option maxRecDepth 100000 in
theorem PySem.Challenge.cw_kh0009_01_holds : PySem.Challenge.rw_kh0009_01.Holds := by
  exact Mine.law_holds
