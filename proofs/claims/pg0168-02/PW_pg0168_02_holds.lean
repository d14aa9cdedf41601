import PyProof.Rows.All
import Wide.All
import OpenK.AllK
import Wide.FinOn
import PySem.Challenge.RW_pg0168_02
set_option Elab.async false
section
open PySem PySem.W PyProof.Rows PySem.Calls PySem.Spec
namespace Mine
noncomputable abbrev Led := List (Addr × Obj)
structure FMC {α : Type} (P : α → Prop) (a : α) (l : List α) : Prop where
  here : P a
  rest : ∀ x ∈ l, P x
theorem FMC.all {α : Type} {P : α → Prop} {a : α} {l : List α} (h : FMC P a l) : ∀ x ∈ a :: l, P x := List.forall_mem_cons.mpr ⟨h.here, h.rest⟩
/-- what a def of the text does, told of any frame that calls it -/
noncomputable def CS (K : World → Frag) (prog : PySem.Program) (w : World) (H : Heap → Prop) (f : Addr) (dd uu : Nat) (news : Led) (vs : List Value) (R : Value → Led → Prop) : Prop :=
  ∀ (p : PySem.Program) (loose : List PySem.Str) (mean : ExcName → Option Value) (mg mb : PySem.Str → Option Value) (dp un : Nat) (gd : Option (List Code)) (cn : PySem.Str) (cs : Scope) (L a : Addr) (ccd : Value) (cl : List (PySem.Str × Addr)) (outer : List Env) (A₀ : Around) (base h₀ : Heap) (m : PySem.Str → Option Value) (s : Shared) (Q E : Value → Shared → Prop),
    Below A₀ base outer h₀ → Fr h₀ L s.heap m → (K w).In h₀ → News h₀ L s.heap news → Top p loose mean mg mb h₀ → H base → cs.kind = .function → dp + dd < recursionLimit → un + uu < cLine →
    (∀ v news' h' tk', Fr h₀ L h' m → News h₀ L h' news' → R v news' → Q v { s with heap := h', toks := tk' }) →
    wpAny (model prog w) (ktrTop dp un gd cn cs L a ccd cl outer) (call (.ref f) vs) Q E s
section
variable {K : World → Frag} {prog : PySem.Program} {w : World} {H : Heap → Prop} {f : Addr} {dd uu : Nat} {news : Led} {vs : List Value} {R : Value → Led → Prop}
theorem CS.use (C : CS K prog w H f dd uu news vs R) {p : PySem.Program} {loose : List PySem.Str} {mean : ExcName → Option Value} {mg mb : PySem.Str → Option Value} {dp un : Nat} {gd : Option (List Code)} {cn : PySem.Str} {cs : Scope} {L a : Addr} {ccd : Value} {cl : List (PySem.Str × Addr)} {outer : List Env} {A₀ : Around} {base h₀ : Heap} {m : PySem.Str → Option Value} {s : Shared} {Q E : Value → Shared → Prop}
    (B : Below A₀ base outer h₀) (F : Fr h₀ L s.heap m) (X : (K w).In h₀) (N : News h₀ L s.heap news) (T : Top p loose mean mg mb h₀) (hH : H base) (hk : cs.kind = .function) (hd : dp + dd < recursionLimit) (hu : un + uu < cLine)
    (h : ∀ v news' h' tk', Fr h₀ L h' m → News h₀ L h' news' → R v news' → Q v { s with heap := h', toks := tk' }) :
    wpAny (model prog w) (ktrTop dp un gd cn cs L a ccd cl outer) (call (.ref f) vs) Q E s := C _ _ _ _ _ _ _ _ _ _ _ _ _ _ _ _ _ _ _ _ _ _ B F X N T hH hk hd hu h
end
/-- the same, told to whoever goes on: nothing has to be taken apart there -/
noncomputable def CW (K : World → Frag) (prog : PySem.Program) (w : World) (H : Heap → Prop) (f : Addr) (dd uu : Nat) (news : Led) (vs : List Value) (W : (Value → Led → Prop) → Prop) : Prop :=
  ∀ (p : PySem.Program) (loose : List PySem.Str) (mean : ExcName → Option Value) (mg mb : PySem.Str → Option Value) (dp un : Nat) (gd : Option (List Code)) (cn : PySem.Str) (cs : Scope) (L a : Addr) (ccd : Value) (cl : List (PySem.Str × Addr)) (outer : List Env) (A₀ : Around) (base h₀ : Heap) (m : PySem.Str → Option Value) (s : Shared) (Q E : Value → Shared → Prop),
    Below A₀ base outer h₀ → Fr h₀ L s.heap m → (K w).In h₀ → News h₀ L s.heap news → Top p loose mean mg mb h₀ → H base → cs.kind = .function → dp + dd < recursionLimit → un + uu < cLine →
    (W fun v news' => ∀ h' tk', Fr h₀ L h' m → News h₀ L h' news' → Q v { s with heap := h', toks := tk' }) →
    wpAny (model prog w) (ktrTop dp un gd cn cs L a ccd cl outer) (call (.ref f) vs) Q E s
section
variable {K : World → Frag} {prog : PySem.Program} {w : World} {H : Heap → Prop} {f : Addr} {dd uu : Nat} {news : Led} {vs : List Value} {R : Value → Led → Prop} {W : (Value → Led → Prop) → Prop}
theorem CS.toW (C : CS K prog w H f dd uu news vs R) (hW : ∀ v nw (G : Value → Led → Prop), R v nw → W G → G v nw) : CW K prog w H f dd uu news vs W :=
  fun _ _ _ _ _ _ _ _ _ _ _ _ _ _ _ _ _ _ _ _ _ _ B F X N T hH hk hd hu h => C _ _ _ _ _ _ _ _ _ _ _ _ _ _ _ _ _ _ _ _ _ _ B F X N T hH hk hd hu fun v nw h' tk' F' N' r => hW v nw _ r h h' tk' F' N'
theorem CW.use (C : CW K prog w H f dd uu news vs W) {p : PySem.Program} {loose : List PySem.Str} {mean : ExcName → Option Value} {mg mb : PySem.Str → Option Value} {dp un : Nat} {gd : Option (List Code)} {cn : PySem.Str} {cs : Scope} {L a : Addr} {ccd : Value} {cl : List (PySem.Str × Addr)} {outer : List Env} {A₀ : Around} {base h₀ : Heap} {m : PySem.Str → Option Value} {s : Shared} {Q E : Value → Shared → Prop}
    (B : Below A₀ base outer h₀) (F : Fr h₀ L s.heap m) (X : (K w).In h₀) (N : News h₀ L s.heap news) (T : Top p loose mean mg mb h₀) (hH : H base) (hk : cs.kind = .function) (hd : dp + dd < recursionLimit) (hu : un + uu < cLine)
    (h : W fun v news' => ∀ h' tk', Fr h₀ L h' m → News h₀ L h' news' → Q v { s with heap := h', toks := tk' }) :
    wpAny (model prog w) (ktrTop dp un gd cn cs L a ccd cl outer) (call (.ref f) vs) Q E s := C _ _ _ _ _ _ _ _ _ _ _ _ _ _ _ _ _ _ _ _ _ _ B F X N T hH hk hd hu h
end
noncomputable abbrev tup (vs : List Value) : Obj := { cls := .type "tuple", data := .seq vs.toArray 0 }
theorem allLt_mem {d : Addr} : ∀ {l : Led}, AllLt d l → ∀ p ∈ l, p.1 < d
  | [], _, _, h => nomatch h
  | _ :: _, h, _, .head _ => h.1
  | _ :: _, h, q, .tail _ hq => allLt_mem h.2 q hq
theorem all_ne {c d : Nat} {l : Led} (h : AllLt d l) (hd : @LE.le Nat _ d c) : ∀ p ∈ l, p.1 ≠ c := fun p hp => Nat.ne_of_lt (Nat.lt_of_lt_of_le (allLt_mem h p hp) hd)
theorem all_lt {c d : Nat} {l : Led} (h : AllLt d l) (hd : @LE.le Nat _ d c) : ∀ p ∈ l, p.1 < c := fun p hp => Nat.lt_of_lt_of_le (allLt_mem h p hp) hd
theorem newsSub {h₀ h : Heap} {L : Addr} {S T : Led} (N : News h₀ L h S) (hs : ∀ p ∈ T, p ∈ S) : News h₀ L h T := fun p hp => N p (hs p hp)
/-- the table of a def's own defs: empty, or the one def's code is in it -/
noncomputable def TabIs (line col : Int) (nm : PySem.Str) (o : Obj) (news : Led) : Prop :=
  o = tabObj #[] ∨ ∃ c oc vs t, o = tabObj (#[] ++ #[rawInt line, rawInt col, .ref c]) ∧ (c, oc) ∈ news ∧ oc.data = .fields vs ∧ vs[1]? = some (.str nm t)
theorem TabIs.mono {line col : Int} {nm : PySem.Str} {o : Obj} {news news' : Led} (h : TabIs line col nm o news) (hs : ∀ p ∈ news, p ∈ news') : TabIs line col nm o news' := by
  rcases h with h | ⟨c, oc, vs, t, h1, h2, h3, h4⟩
  · exact .inl h
  · exact .inr ⟨c, oc, vs, t, h1, hs _ h2, h3, h4⟩
theorem rot1 {h₀ h : Heap} {L : Addr} {a b : Addr × Obj} {l : Led} (N : News h₀ L h (a :: b :: l)) : News h₀ L h (b :: a :: l) := fun p hp => N p (by
  rcases List.mem_cons.mp hp with rfl | hp
  · exact .tail _ (.head _)
  · rcases List.mem_cons.mp hp with rfl | hp
    · exact .head _
    · exact .tail _ (.tail _ hp))
noncomputable def hue : Nat → UInt64
  | 0 => 0x0 | 1 => 0x3FC5555555555555 | 2 => 0x3FD5555555555555 | 3 => 0x3FE0000000000000 | 4 => 0x3FE5555555555555 | _ => 0x3FEAAAAAAAAAAAAB
noncomputable abbrev f0 : UInt64 := 0
noncomputable abbrev f1 : UInt64 := 0x3FF0000000000000
/-- the corner of the colours' wheel, k sixths on -/
noncomputable def rgbOf : Nat → UInt64 × UInt64 × UInt64
  | 0 => (f1, f0, f0) | 1 => (f1, f1, f0) | 2 => (f0, f1, f0) | 3 => (f0, f1, f1) | 4 => (f0, f0, f1) | _ => (f1, f0, f1)
section
variable {prog : PySem.Program} {w : World} {A : Around} {E : Value → Shared → Prop} {s : Shared} {h₀ : Heap} {L : Addr} {m : PySem.Str → Option Value} {news : Led} {Q : Value → Shared → Prop}
theorem my_len {a : Addr} {vs : List Value} {n j : Nat} (N : News h₀ L s.heap news) (hm : (a, W.listOf vs.toArray n) ∈ news) (hl : vs.length = j) (hj : j < 2 ^ 62) (h : ∀ t, Q (.int (j : Int) t) { s with toks := s.toks + 1 + 1 }) :
    wpAny (model prog w) A (call (.builtin "len") [.ref a]) Q E s := by
  refine len_list (items := vs.toArray) ⟨_, (N _ hm).1, rfl, n, rfl⟩ (by rw [List.size_toArray]; omega) ?_
  rw [List.size_toArray, hl]
  exact h _
end
end Mine
end
section
open PySem PySem.W PyProof.Rows PySem.Calls PySem.Spec
namespace Mine
/-- k figures to the base B, lowest first; the last one takes what is left -/
noncomputable def digs (B : Nat) : Nat → Nat → List Int
  | 0, _ => []
  | 1, x => [(x : Int)]
  | k + 2, x => ((x % B : Nat) : Int) :: digs B (k + 1) (x / B)
theorem digs_length (B : Nat) : ∀ k x, (digs B k x).length = k
  | 0, _ => rfl
  | 1, _ => rfl
  | k + 2, x => by rw [digs, List.length_cons, digs_length B (k + 1)]
theorem digs_split (B : Nat) {k2 : Nat} (h2 : 0 < k2) : ∀ (k1 x : Nat), 0 < k1 → digs B (k1 + k2) x = digs B k1 (x % B ^ k1) ++ digs B k2 (x / B ^ k1)
  | 1, x, _ => by
    obtain ⟨j, rfl⟩ : ∃ j, k2 = j + 1 := ⟨k2 - 1, by omega⟩
    rw [show 1 + (j + 1) = j + 2 by omega, digs, digs, Nat.pow_one]
    rfl
  | k1 + 2, x, _ => by
    obtain ⟨j, rfl⟩ : ∃ j, k2 = j + 1 := ⟨k2 - 1, by omega⟩
    have e : k1 + 2 + (j + 1) = (k1 + 1 + j) + 2 := by omega
    have e' : k1 + 1 + j + 1 = k1 + 1 + (j + 1) := by omega
    rw [e, digs, e', digs_split B h2 (k1 + 1) (x / B) (by omega), digs]
    have m1 : x % B ^ (k1 + 2) % B = x % B := Nat.mod_mod_of_dvd x (by rw [Nat.pow_succ]; exact Nat.dvd_mul_left _ _)
    have m2 : x % B ^ (k1 + 2) / B = x / B % B ^ (k1 + 1) := by
      rw [Nat.pow_succ B (k1 + 1), Nat.mul_comm, Nat.mod_mul_right_div_self]
    have m3 : x / B ^ (k1 + 2) = x / B / B ^ (k1 + 1) := by
      rw [Nat.pow_succ B (k1 + 1), Nat.mul_comm, Nat.div_div_eq_div_mul]
    rw [m1, m2, m3]
    rfl
theorem land_high (x s : Nat) : x &&& (x / 2 ^ s * 2 ^ s) = x / 2 ^ s * 2 ^ s := by
  have e : x / 2 ^ s * 2 ^ s = (x >>> s) <<< s := by rw [Nat.shiftRight_eq_div_pow, Nat.shiftLeft_eq]
  rw [e]
  apply Nat.eq_of_testBit_eq
  intro i
  rw [Nat.testBit_and, Nat.testBit_shiftLeft, Nat.testBit_shiftRight]
  by_cases h : s ≤ i
  · rw [show s + (i - s) = i by omega]; cases x.testBit i <;> simp
  · simp [h]
theorem xor_low (x s : Nat) : Builtin.bitXor (x : Int) (((x : Int).fdiv (2 ^ s)) * 2 ^ s) = ((x % 2 ^ s : Nat) : Int) := by
  have e : ((x : Int).fdiv (2 ^ s)) * 2 ^ s = ((x / 2 ^ s * 2 ^ s : Nat) : Int) := by
    have : ((2 : Int) ^ s) = ((2 ^ s : Nat) : Int) := by norm_cast
    rw [this, ← Int.ofNat_fdiv]; norm_cast
  rw [e, bitXor_and, bitAnd_pp (by omega) (by omega)]
  simp only [Int.toNat_natCast]
  rw [land_high]
  have := Nat.div_add_mod x (2 ^ s)
  rw [Nat.mul_comm] at this
  generalize x / 2 ^ s * 2 ^ s = z at *
  omega
theorem fdiv_pow (x s : Nat) : (x : Int).fdiv (2 ^ s) = ((x / 2 ^ s : Nat) : Int) := by
  have : ((2 : Int) ^ s) = ((2 ^ s : Nat) : Int) := by norm_cast
  rw [this, ← Int.ofNat_fdiv]
/-- a list, new items laid into it -/
noncomputable def putAt (ds : List Int) (lo : Nat) (new : List Int) : List Int := ds.take lo ++ new ++ ds.drop (lo + new.length)
theorem putAt_one (ds : List Int) (lo : Nat) (x : Int) (h : lo < ds.length) : ds.set lo x = putAt ds lo [x] := by
  unfold putAt
  rw [List.set_eq_take_append_cons_drop, if_pos h]
  simp
theorem putAt_length (ds : List Int) (lo : Nat) (new : List Int) (h : lo + new.length ≤ ds.length) : (putAt ds lo new).length = ds.length := by
  unfold putAt
  simp only [List.length_append, List.length_take, List.length_drop]
  omega
theorem putAt_two (ds : List Int) (lo : Nat) (p q : List Int) (h : lo + p.length + q.length ≤ ds.length) : putAt (putAt ds lo p) (lo + p.length) q = putAt ds lo (p ++ q) := by
  unfold putAt
  have h1 : (ds.take lo ++ p).length = lo + p.length := by simp; omega
  rw [List.take_append_of_le_length (by omega), List.take_of_length_le (by omega), List.drop_append]
  rw [show (ds.take lo ++ p).drop (lo + p.length + q.length) = [] from List.drop_eq_nil_of_le (by omega)]
  simp only [List.nil_append, List.drop_drop, List.append_assoc, List.length_append]
  congr 4
  simp; omega
theorem putAt_whole (ds new : List Int) (h : new.length = ds.length) : putAt ds 0 new = new := by
  unfold putAt
  simp [h]
theorem fdiv2 (a : Nat) : ((a : Int)).fdiv (2 ^ (1 : Int).toNat) = ((a / 2 : Nat) : Int) := fdiv_pow a 1
theorem mulok {a b : Int} (h : a.natAbs < 2 ^ 64) : IntMulOk a b := IntMulOk.of_left (intBits_le_iff.mpr h)
section
variable {prog : PySem.Program} {w : World} {A : Around} {E : Value → Shared → Prop} {s : Shared} {Q : Value → Shared → Prop} {t u : Tok}
theorem r_mid {lo k : Nat} (h : Q (.int ((lo + k / 2 : Nat) : Int) s.toks) { s with toks := s.toks + 1 }) :
    wpAny (model prog w) A (binaryOp .RShift (.int ((lo : Int) + ((lo + k : Nat) : Int)) t) (.int 1 u)) Q E s := by
  refine rshift_int (by decide) ?_
  have e : ((lo : Int) + ((lo + k : Nat) : Int)).fdiv (2 ^ (1 : Int).toNat) = ((lo + k / 2 : Nat) : Int) := by
    have : ((lo : Int) + ((lo + k : Nat) : Int)) = ((lo + (lo + k) : Nat) : Int) := by omega
    rw [this, fdiv2]
    congr 1
    omega
  rw [e]; exact h
theorem r_shift {lo k n : Nat} (hk : k ≤ 300) (h : Q (.int ((k * n : Nat) : Int) s.toks) { s with toks := s.toks + 1 }) :
    wpAny (model prog w) A (binaryOp .Mult (.int (((lo + k : Nat) : Int) - (lo : Int)) t) (.int (n : Int) u)) Q E s := by
  refine mul_int ?_ (mulok (by omega))
  have e : (((lo + k : Nat) : Int) - (lo : Int)) = (k : Int) := by omega
  rw [e]; exact h
theorem r_upper {x e : Nat} (h : Q (.int ((x / 2 ^ e : Nat) : Int) s.toks) { s with toks := s.toks + 1 }) :
    wpAny (model prog w) A (binaryOp .RShift (.int (x : Int) t) (.int (e : Int) u)) Q E s := by
  refine rshift_int (by omega) ?_
  rw [Int.toNat_natCast, fdiv_pow]; exact h
theorem r_shl {x e : Nat} (hx : x < 2 ^ 80) (he : e ≤ 100000) (h : Q (.int ((x * 2 ^ e : Nat) : Int) s.toks) { s with toks := s.toks + 1 }) :
    wpAny (model prog w) A (binaryOp .LShift (.int (x : Int) t) (.int (e : Int) u)) Q E s := by
  refine lshift_int (by omega) ?_ ?_
  · have h1 : Builtin.Int.intBits (x : Int) ≤ 80 := intBits_le_iff.mpr (by omega)
    omega
  · rw [Int.toNat_natCast]
    have : ((x : Int) * 2 ^ e) = ((x * 2 ^ e : Nat) : Int) := by norm_cast
    rw [this]; exact h
theorem r_xor {x e : Nat} (h : Q (.int ((x % 2 ^ e : Nat) : Int) s.toks) { s with toks := s.toks + 1 }) :
    wpAny (model prog w) A (binaryOp .BitXor (.int (x : Int) t) (.int ((x / 2 ^ e * 2 ^ e : Nat) : Int) u)) Q E s := by
  refine xor_int ?_
  have e1 : ((x / 2 ^ e * 2 ^ e : Nat) : Int) = ((x : Int).fdiv (2 ^ e)) * 2 ^ e := by
    rw [fdiv_pow]; norm_cast
  rw [e1, xor_low]; exact h
end
theorem e_ok {a n : Nat} (ha : a ≤ 300) (hn : n < 100) : a * n ≤ 100000 := Nat.le_trans (Nat.mul_le_mul ha (Nat.le_of_lt hn)) (by decide)
theorem put_done (ds : List Int) (lo n k x : Nat) (hk : 2 ≤ k) (h : lo + k ≤ ds.length) :
    putAt (putAt ds lo (digs (2 ^ n) (k / 2) (x % 2 ^ (k / 2 * n)))) (lo + k / 2) (digs (2 ^ n) (k - k / 2) (x / 2 ^ (k / 2 * n))) = putAt ds lo (digs (2 ^ n) k x) := by
  have l1 := digs_length (2 ^ n) (k / 2) (x % 2 ^ (k / 2 * n))
  have l2 := digs_length (2 ^ n) (k - k / 2) (x / 2 ^ (k / 2 * n))
  have e := putAt_two ds lo (digs (2 ^ n) (k / 2) (x % 2 ^ (k / 2 * n))) (digs (2 ^ n) (k - k / 2) (x / 2 ^ (k / 2 * n))) (by omega)
  rw [l1] at e
  rw [e]
  have hp : (2 ^ n) ^ (k / 2) = 2 ^ (k / 2 * n) := by rw [← Nat.pow_mul, Nat.mul_comm]
  have q := digs_split (2 ^ n) (k2 := k - k / 2) (by omega) (k / 2) x (by omega)
  rw [show k / 2 + (k - k / 2) = k by omega, hp] at q
  rw [q]
theorem bits_pos {x n k : Nat} (hn : 0 < n) (hx : x ≠ 0) (hk : ((Builtin.Int.intBits x : Int) + n - 1).fdiv n = (k : Int)) : 0 < k := by
  have h1 : 0 < Builtin.Int.intBits (x : Int) := by
    rcases Nat.eq_zero_or_pos (Builtin.Int.intBits (x : Int)) with h | h
    · have := (intBits_le_iff (m := 0) (x := (x : Int))).mp (by omega)
      simp at this; omega
    · exact h
  have e : ((Builtin.Int.intBits x : Int) + n - 1) = ((Builtin.Int.intBits x + n - 1 : Nat) : Int) := by omega
  rw [e, ← Int.ofNat_fdiv] at hk
  have h2 : (Builtin.Int.intBits x + n - 1) / n = k := by exact_mod_cast hk
  have h3 : 1 ≤ (Builtin.Int.intBits x + n - 1) / n := (Nat.le_div_iff_mul_le hn).mpr (by omega)
  omega
theorem bits_zero {x n k : Nat} (hn : 0 < n) (hx : x = 0) (hk : ((Builtin.Int.intBits x : Int) + n - 1).fdiv n = (k : Int)) : k = 0 := by
  subst hx
  have e0 : Builtin.Int.intBits ((0 : Nat) : Int) = 0 := rfl
  have e : ((Builtin.Int.intBits ((0 : Nat) : Int) : Int) + n - 1) = ((n - 1 : Nat) : Int) := by rw [e0]; omega
  rw [e, ← Int.ofNat_fdiv] at hk
  have h2 : (n - 1) / n = k := by exact_mod_cast hk
  rw [← h2]; exact Nat.div_eq_of_lt (by omega)
theorem flat_len {z : Int} {l : List Int} {n1 k : Nat} (e1 : l.length = n1) (e3 : 0 ≤ z → (n1 : Int) = ((0 + 1 : Nat) : Int) * z) (hk : z = (k : Int)) : l.length = k := by
  have := e3 (by omega)
  omega
theorem flat_nil {vs : List Value} {l : List Int} {B x : Nat} (h : IntsAre vs l) (hk : l.length = 0) : IntsAre vs (digs B 0 x) := by
  cases l with
  | nil => exact h
  | cons _ _ => simp at hk
theorem div_le_80 {x e : Nat} (hx : x < 2 ^ 80) : x / 2 ^ e < 2 ^ 80 := Nat.lt_of_le_of_lt (Nat.div_le_self _ _) hx
theorem mod_le_80 {x e : Nat} (hx : x < 2 ^ 80) : x % 2 ^ e < 2 ^ 80 := Nat.lt_of_le_of_lt (Nat.mod_le _ _) hx
noncomputable def InnerOk (K : World → Frag) (prog : PySem.Program) (w : World) (p : PySem.Program) (loose : List PySem.Str) (mean : ExcName → Option Value) (mg mb : PySem.Str → Option Value) (f D : Addr) (fx : Led) (B k : Nat) : Prop :=
  ∀ (x lo : Nat) (vs : List Value) (ds : List Int) (t1 t2 t3 : Tok) (dp un : Nat) (gd : Option (List Code)) (cn : PySem.Str) (cs : Scope) (L a : Addr) (ccd : Value) (cl : List (PySem.Str × Addr)) (outer : List Env) (A₀ : Around) (base h₀ : Heap) (m : PySem.Str → Option Value) (s : Shared) (Q E : Value → Shared → Prop),
    x < 2 ^ 80 → IntsAre vs ds → lo + k ≤ ds.length → ds.length < 200 → Below A₀ base outer h₀ → Fr h₀ L s.heap m → (K w).In h₀ → News h₀ L s.heap ((D, W.listOf vs.toArray 0) :: fx) → Top p loose mean mg mb h₀ → cs.kind = .function → dp + k < recursionLimit → un + 8 * k < cLine →
    (∀ vs' h' tk', IntsAre vs' (putAt ds lo (digs B k x)) → Fr h₀ L h' m → News h₀ L h' ((D, W.listOf vs'.toArray 0) :: fx) → Q .none { s with heap := h', toks := tk' }) →
    wpAny (model prog w) (ktrTop dp un gd cn cs L a ccd cl outer) (call (.ref f) [.int x t1, .int lo t2, .int ((lo + k : Nat) : Int) t3]) Q E s
section
variable {K : World → Frag} {prog : PySem.Program} {w : World} {p : PySem.Program} {loose : List PySem.Str} {mean : ExcName → Option Value} {mg mb : PySem.Str → Option Value} {f D : Addr} {fx : Led} {B k : Nat}
theorem InnerOk.use (C : InnerOk K prog w p loose mean mg mb f D fx B k) {X Lo Hi : Int} {x lo : Nat} {vs : List Value} {ds : List Int} {t1 t2 t3 : Tok} {dp un : Nat} {gd : Option (List Code)} {cn : PySem.Str} {cs : Scope} {L a : Addr} {ccd : Value} {cl : List (PySem.Str × Addr)} {outer : List Env} {A₀ : Around} {base h₀ : Heap} {m : PySem.Str → Option Value} {s : Shared} {Q E : Value → Shared → Prop}
    (eX : X = (x : Int)) (eL : Lo = (lo : Int)) (eH : Hi = ((lo + k : Nat) : Int)) (hx : x < 2 ^ 80) (hv : IntsAre vs ds) (hk : lo + k ≤ ds.length) (hl : ds.length < 200) (hB : Below A₀ base outer h₀) (F : Fr h₀ L s.heap m) (hX : (K w).In h₀) (N : News h₀ L s.heap ((D, W.listOf vs.toArray 0) :: fx)) (T : Top p loose mean mg mb h₀) (hc : cs.kind = .function) (hd : dp + k < recursionLimit) (hu : un + 8 * k < cLine)
    (h : ∀ vs' h' tk', IntsAre vs' (putAt ds lo (digs B k x)) → Fr h₀ L h' m → News h₀ L h' ((D, W.listOf vs'.toArray 0) :: fx) → Q .none { s with heap := h', toks := tk' }) :
    wpAny (model prog w) (ktrTop dp un gd cn cs L a ccd cl outer) (call (.ref f) [.int X t1, .int Lo t2, .int Hi t3]) Q E s := by
  subst eX; subst eL; subst eH
  exact C _ _ _ _ _ _ _ _ _ _ _ _ _ _ _ _ _ _ _ _ _ _ _ _ hx hv hk hl hB F hX N T hc hd hu h
theorem innerOk_all (step : ∀ k, 0 < k → (∀ j, 0 < j → j < k → InnerOk K prog w p loose mean mg mb f D fx B j) → InnerOk K prog w p loose mean mg mb f D fx B k) : ∀ k, 0 < k → InnerOk K prog w p loose mean mg mb f D fx B k := by
  intro k
  induction k using Nat.strongRecOn with
  | ind k ih => exact fun hk => step k hk fun j hj hjk => ih j hjk hj
end
/-- figures put together -/
noncomputable def valN (B : Nat) : List Nat → Nat
  | [] => 0
  | d :: r => d + B * valN B r
theorem valN_append (B : Nat) : ∀ p q : List Nat, valN B (p ++ q) = valN B p + B ^ p.length * valN B q
  | [], q => by simp [valN]
  | d :: p, q => by
    rw [List.cons_append, valN, valN, valN_append B p q, List.length_cons, Nat.pow_succ, Nat.mul_add, Nat.add_assoc, ← Nat.mul_assoc, Nat.mul_comm (B ^ p.length) B]
theorem valN_lt (B : Nat) (hB : 0 < B) : ∀ p : List Nat, (∀ d ∈ p, d < B) → valN B p < B ^ p.length
  | [], _ => by simp [valN]
  | d :: p, h => by
    have h1 := h d (.head _)
    have h2 := valN_lt B hB p fun x hx => h x (.tail _ hx)
    rw [valN, List.length_cons, Nat.pow_succ]
    have h3 : B * (valN B p + 1) ≤ B * B ^ p.length := Nat.mul_le_mul_left B h2
    rw [Nat.mul_add, Nat.mul_one] at h3
    rw [Nat.mul_comm _ B]
    omega
noncomputable abbrev castL (ds : List Nat) : List Int := ds.map fun (x : Nat) => (x : Int)
noncomputable def D2Ok (K : World → Frag) (prog : PySem.Program) (w : World) (p : PySem.Program) (loose : List PySem.Str) (mean : ExcName → Option Value) (mg mb : PySem.Str → Option Value) (f : Addr) (fx : Led) (B : Nat) (ds : List Nat) (k : Nat) : Prop :=
  ∀ (lo : Nat) (t2 t3 : Tok) (dp un : Nat) (gd : Option (List Code)) (cn : PySem.Str) (cs : Scope) (L a : Addr) (ccd : Value) (cl : List (PySem.Str × Addr)) (outer : List Env) (A₀ : Around) (base h₀ : Heap) (m : PySem.Str → Option Value) (s : Shared) (Q E : Value → Shared → Prop),
    lo + k ≤ ds.length → Below A₀ base outer h₀ → Fr h₀ L s.heap m → (K w).In h₀ → News h₀ L s.heap fx → Top p loose mean mg mb h₀ → cs.kind = .function → dp + k < recursionLimit → un + 8 * k < cLine →
    (∀ t h' tk', Fr h₀ L h' m → News h₀ L h' fx → Q (.int ((valN B ((ds.drop lo).take k) : Nat) : Int) t) { s with heap := h', toks := tk' }) →
    wpAny (model prog w) (ktrTop dp un gd cn cs L a ccd cl outer) (call (.ref f) [.int lo t2, .int ((lo + k : Nat) : Int) t3]) Q E s
section
variable {K : World → Frag} {prog : PySem.Program} {w : World} {p : PySem.Program} {loose : List PySem.Str} {mean : ExcName → Option Value} {mg mb : PySem.Str → Option Value} {f : Addr} {fx : Led} {B k : Nat} {ds : List Nat}
theorem D2Ok.use (C : D2Ok K prog w p loose mean mg mb f fx B ds k) {Lo Hi : Int} {lo : Nat} {t2 t3 : Tok} {dp un : Nat} {gd : Option (List Code)} {cn : PySem.Str} {cs : Scope} {L a : Addr} {ccd : Value} {cl : List (PySem.Str × Addr)} {outer : List Env} {A₀ : Around} {base h₀ : Heap} {m : PySem.Str → Option Value} {s : Shared} {Q E : Value → Shared → Prop}
    (eL : Lo = (lo : Int)) (eH : Hi = ((lo + k : Nat) : Int)) (hk : lo + k ≤ ds.length) (hB : Below A₀ base outer h₀) (F : Fr h₀ L s.heap m) (hX : (K w).In h₀) (N : News h₀ L s.heap fx) (T : Top p loose mean mg mb h₀) (hc : cs.kind = .function) (hd : dp + k < recursionLimit) (hu : un + 8 * k < cLine)
    (h : ∀ t h' tk', Fr h₀ L h' m → News h₀ L h' fx → Q (.int ((valN B ((ds.drop lo).take k) : Nat) : Int) t) { s with heap := h', toks := tk' }) :
    wpAny (model prog w) (ktrTop dp un gd cn cs L a ccd cl outer) (call (.ref f) [.int Lo t2, .int Hi t3]) Q E s := by
  subst eL; subst eH
  exact C _ _ _ _ _ _ _ _ _ _ _ _ _ _ _ _ _ _ _ _ hk hB F hX N T hc hd hu h
theorem D2Ok.all (step : ∀ k, 0 < k → (∀ j, 0 < j → j < k → D2Ok K prog w p loose mean mg mb f fx B ds j) → D2Ok K prog w p loose mean mg mb f fx B ds k) : ∀ k, 0 < k → D2Ok K prog w p loose mean mg mb f fx B ds k := by
  intro k
  induction k using Nat.strongRecOn with
  | ind k ih => exact fun hk => step k hk fun j hj hjk => ih j hjk hj
end
theorem d2_one {ds : List Nat} {lo B : Nat} (h : lo + 1 ≤ ds.length) : (castL ds).getD (Int.toNat (lo : Int)) 0 = ((valN B ((ds.drop lo).take 1) : Nat) : Int) := by
  rw [Int.toNat_natCast]
  have h1 : ds.drop lo = ds[lo] :: ds.drop (lo + 1) := List.drop_eq_getElem_cons (by omega)
  have h2 : (ds.drop lo).take 1 = [ds[lo]] := by rw [h1]; rfl
  have h3 : (castL ds)[lo]? = some ((ds[lo] : Nat) : Int) := by
    rw [List.getElem?_map, List.getElem?_eq_getElem (by omega)]; rfl
  rw [h2, List.getD_eq_getElem?_getD, h3]
  simp [valN]
theorem d2_two {ds : List Nat} {lo n k : Nat} (hk : 2 ≤ k) (h : lo + k ≤ ds.length) :
    ((valN (2 ^ n) ((ds.drop (lo + k / 2)).take (k - k / 2)) * 2 ^ (k / 2 * n) : Nat) : Int) + ((valN (2 ^ n) ((ds.drop lo).take (k / 2)) : Nat) : Int) = ((valN (2 ^ n) ((ds.drop lo).take k) : Nat) : Int) := by
  have e : (ds.drop lo).take k = (ds.drop lo).take (k / 2) ++ (ds.drop (lo + k / 2)).take (k - k / 2) := by
    have := List.take_append_drop (k / 2) ((ds.drop lo).take k)
    rw [List.take_take, List.drop_take, List.drop_drop, Nat.min_eq_left (by omega)] at this
    exact this.symm
  rw [e, valN_append, List.length_take, List.length_drop, Nat.min_eq_left (by omega), ← Nat.pow_mul, Nat.mul_comm n (k / 2), Nat.mul_comm]
  omega
theorem d2_lt {ds : List Nat} {lo n k : Nat} (hd : ∀ d ∈ ds, d < 2 ^ n) (h80 : n * ds.length ≤ 80) : valN (2 ^ n) ((ds.drop lo).take k) < 2 ^ 80 := by
  refine Nat.lt_of_lt_of_le (valN_lt _ (Nat.two_pow_pos n) _ fun d h => hd d (List.mem_of_mem_drop (List.mem_of_mem_take h))) ?_
  rw [← Nat.pow_mul]
  refine Nat.pow_le_pow_right (by decide) (Nat.le_trans (Nat.mul_le_mul_left n ?_) h80)
  rw [List.length_take, List.length_drop]
  omega
theorem d2_all (ds : List Nat) : (ds.drop 0).take ds.length = ds := by simp
/-- the half, as a name -/
noncomputable def hf (k : Nat) : Nat := k / 2
theorem hf_le (k : Nat) : hf k ≤ k := Nat.div_le_self k 2
theorem hf_pos {k : Nat} (h : 2 ≤ k) : 0 < hf k ∧ hf k < k ∧ 0 < k - hf k ∧ k - hf k < k := by unfold hf; omega
theorem hf_split {lo k : Nat} : lo + k = lo + hf k + (k - hf k) := by have := hf_le k; omega
theorem two_of {lo k : Nat} (h0 : 0 < k) (h : ¬ ((lo : Int) + 1 = ((lo + k : Nat) : Int))) : 2 ≤ k := by omega
theorem room_h {dp k j C : Nat} (h : dp + k < C) (hj : j < k) : dp + 1 + j < C := by omega
theorem unit_h {un k j C : Nat} (h : un + 8 * k < C) (hj : j < k) : un + 3 + 8 * j < C := by omega
section
variable {prog : PySem.Program} {w : World} {A : Around} {E : Value → Shared → Prop} {s : Shared} {Q : Value → Shared → Prop} {t u : Tok}
theorem r_midh {lo k : Nat} (h : Q (.int ((lo + hf k : Nat) : Int) s.toks) { s with toks := s.toks + 1 }) :
    wpAny (model prog w) A (binaryOp .RShift (.int ((lo : Int) + ((lo + k : Nat) : Int)) t) (.int 1 u)) Q E s := r_mid h
end
theorem put_doneh (ds : List Int) (lo n k x : Nat) (hk : 2 ≤ k) (h : lo + k ≤ ds.length) :
    putAt (putAt ds lo (digs (2 ^ n) (hf k) (x % 2 ^ (hf k * n)))) (lo + hf k) (digs (2 ^ n) (k - hf k) (x / 2 ^ (hf k * n))) = putAt ds lo (digs (2 ^ n) k x) := put_done ds lo n k x hk h
theorem d2_twoh {ds : List Nat} {lo n k : Nat} (hk : 2 ≤ k) (h : lo + k ≤ ds.length) :
    ((valN (2 ^ n) ((ds.drop (lo + hf k)).take (k - hf k)) * 2 ^ (hf k * n) : Nat) : Int) + ((valN (2 ^ n) ((ds.drop lo).take (hf k)) : Nat) : Int) = ((valN (2 ^ n) ((ds.drop lo).take k) : Nat) : Int) := d2_two hk h
theorem hf_300 {lo k l : Nat} (h : lo + k ≤ l) (hl : l < 200) : hf k ≤ 300 := by have := hf_le k; omega
end Mine
end
section
open PySem PySem.W PyProof.Rows PySem.Calls PySem.Spec
namespace Mine
section
variable {prog : PySem.Program} {w : World} {A : Around} {E : Value → Shared → Prop} {s : Shared} {env : Env} {h₀ : Heap} {x : PySem.Str} {body : List Stmt} {Q : Flow → Shared → Prop}
theorem unr_mono {L : Addr} {s₁ s₂ : Shared} {I : Addr} {it : Obj} {R R' : (PySem.Str → Option Value) → Led → Prop} {f : Flow} (hr : ∀ m n, R m n → R' m n) (h : UnrPost h₀ L s₁ I it R Q f s₂) : UnrPost h₀ L s₁ I it R' Q f s₂ := by
  have go : UnrEnd h₀ L s₁ I it R s₂ → UnrEnd h₀ L s₁ I it R' s₂ := fun ⟨h', tk, m', n', e, F, N, o, r⟩ => ⟨h', tk, m', n', e, F, N, o, hr _ _ r⟩
  cases f with
  | ret v => exact h
  | brk => exact h
  | next => exact go h
  | cont => exact go h
theorem RevInd {I : Addr} {lp : Addr × Obj} (P : List Value → (PySem.Str → Option Value) → Led → Prop)
    (turn : ∀ v us m nw, P (v :: us) m nw → ∀ (it : Obj) h tk, it.cls = .type "list_reverseiterator" → Fr h₀ env.locals h (fun y => if y = x then some v else m y) → News h₀ env.locals h ((I, it) :: nw) →
      wpAny (model prog w) A (execs body env) (UnrPost h₀ env.locals { s with heap := h, toks := tk } I it (fun m' n' => lp ∈ n' ∧ P us m' n') Q) E { s with heap := h, toks := tk })
    (done : ∀ m nw, P [] m nw → ∀ h tk, Fr h₀ env.locals h m → News h₀ env.locals h nw → Q .next { s with heap := h, toks := tk }) :
    ∀ us m nw, P us m nw → RevRest prog w A E h₀ env x body Q s I lp us m nw
  | [], m, nw, h => RevRest.zero (done m nw h)
  | v :: us, m, nw, h => RevRest.succ fun it hp tk hc F N => wpAny_mono (turn v us m nw h it hp tk hc F N) (fun _ _ p => unr_mono (fun _ _ r => ⟨r.1, RevInd P turn done us _ _ r.2⟩) p) fun _ _ e => e
theorem ListInd {I : Addr} {lp : Addr × Obj} (P : List Value → (PySem.Str → Option Value) → Led → Prop)
    (turn : ∀ v us m nw, P (v :: us) m nw → ∀ (it : Obj) h tk, it.cls = .type "list_iterator" → Fr h₀ env.locals h (fun y => if y = x then some v else m y) → News h₀ env.locals h ((I, it) :: nw) →
      wpAny (model prog w) A (execs body env) (UnrPost h₀ env.locals { s with heap := h, toks := tk } I it (fun m' n' => lp ∈ n' ∧ P us m' n') Q) E { s with heap := h, toks := tk })
    (done : ∀ m nw, P [] m nw → ∀ h tk, Fr h₀ env.locals h m → News h₀ env.locals h nw → Q .next { s with heap := h, toks := tk }) :
    ∀ us m nw, P us m nw → ListRest prog w A E h₀ env x body Q s I lp us m nw
  | [], m, nw, h => ListRest.zero (done m nw h)
  | v :: us, m, nw, h => ListRest.succ fun it hp tk hc F N => wpAny_mono (turn v us m nw h it hp tk hc F N) (fun _ _ p => unr_mono (fun _ _ r => ⟨r.1, ListInd P turn done us _ _ r.2⟩) p) fun _ _ e => e
theorem StrInd {I : Addr} (P : List PySem.Str → (PySem.Str → Option Value) → Led → Prop)
    (turn : ∀ c us m nw, P (c :: us) m nw → ∀ (u : Tok) (it : Obj) h tk, Fr h₀ env.locals h (fun y => if y = x then some (.str c u) else m y) → News h₀ env.locals h ((I, it) :: nw) →
      wpAny (model prog w) A (execs body env) (UnrPost h₀ env.locals { s with heap := h, toks := tk } I it (fun m' n' => P us m' n') Q) E { s with heap := h, toks := tk })
    (done : ∀ m nw, P [] m nw → ∀ h tk, Fr h₀ env.locals h m → News h₀ env.locals h nw → Q .next { s with heap := h, toks := tk }) :
    ∀ us m nw, P us m nw → StrRest prog w A E h₀ env x body Q s I us m nw
  | [], m, nw, h => StrRest.zero (done m nw h)
  | c :: us, m, nw, h => StrRest.succ fun u it hp tk F N => wpAny_mono (turn c us m nw h u it hp tk F N) (fun _ _ p => unr_mono (fun _ _ r => StrInd P turn done us _ _ r) p) fun _ _ e => e
theorem RangeInd {I : Addr} {a : Int} {n : Nat} (P : Nat → Nat → (PySem.Str → Option Value) → Led → Prop)
    (turn : ∀ k i m nw, P (k + 1) i m nw → ∀ (t : Tok) (it : Obj) h tk, Fr h₀ env.locals h (fun y => if y = x then some (.int (a + (i : Int)) t) else m y) → News h₀ env.locals h ((I, it) :: nw) →
      wpAny (model prog w) A (execs body env) (UnrPost h₀ env.locals { s with heap := h, toks := tk } I it (fun m' n' => P k (i + 1) m' n') Q) E { s with heap := h, toks := tk })
    (done : ∀ i m nw, P 0 i m nw → ∀ h tk, Fr h₀ env.locals h m → News h₀ env.locals h nw → Q .next { s with heap := h, toks := tk }) :
    ∀ k i m nw, P k i m nw → RangeRest prog w A E h₀ env x body Q s I a n k i m nw
  | 0, i, m, nw, h => RangeRest.zero (done i m nw h)
  | k + 1, i, m, nw, h => RangeRest.succ fun t hp tk F N => wpAny_mono (turn k i m nw h t _ hp tk F N) (fun _ _ p => unr_mono (fun _ _ r => RangeInd P turn done k (i + 1) _ _ r) p) fun _ _ e => e
end
/-! the same loops, what comes behind told by a name alone -/
section
variable {prog : PySem.Program} {w : World} {A : Around} {E : Value → Shared → Prop} {s : Shared} {env : Env} {h₀ : Heap} {x : PySem.Str} {body : List Stmt} {Q : Flow → Shared → Prop}
theorem RevIndQ {I : Addr} {lp : Addr × Obj} (P : List Value → (PySem.Str → Option Value) → Led → Prop)
    (turn : ∀ v us m nw, P (v :: us) m nw → ∀ (it : Obj) h tk (Q' : Flow → Shared → Prop) (E' : Value → Shared → Prop), (∀ {h' tk' m' all}, Fr h₀ env.locals h' m' → News h₀ env.locals h' all → ∀ nw', (∀ p ∈ (I, it) :: nw', p ∈ all) → (∀ p ∈ nw', p.1 ≠ I) → (lp ∈ nw' ∧ P us m' nw') → Q' .next { s with heap := h', toks := tk' }) → it.cls = .type "list_reverseiterator" → Fr h₀ env.locals h (fun y => if y = x then some v else m y) → News h₀ env.locals h ((I, it) :: nw) →
      wpAny (model prog w) A (execs body env) Q' E' { s with heap := h, toks := tk })
    (done : ∀ m nw, P [] m nw → ∀ h tk, Fr h₀ env.locals h m → News h₀ env.locals h nw → Q .next { s with heap := h, toks := tk }) :
    ∀ us m nw, P us m nw → RevRest prog w A E h₀ env x body Q s I lp us m nw :=
  RevInd P (fun v us m nw h it hp tk hc F N => wpAny_mono (turn v us m nw h it hp tk (UnrPost h₀ env.locals { s with heap := hp, toks := tk } I it (fun m' n' => lp ∈ n' ∧ P us m' n') Q) E (fun F' N' nw' sub off r => UnrEnd.intro (s₁ := { s with heap := hp, toks := tk }) F' N' nw' sub off r) hc F N) (fun _ _ p => p) fun _ _ e => e) done
theorem StrIndQ {I : Addr} (P : List PySem.Str → (PySem.Str → Option Value) → Led → Prop)
    (turn : ∀ c us m nw, P (c :: us) m nw → ∀ (u : Tok) (it : Obj) h tk (Q' : Flow → Shared → Prop) (E' : Value → Shared → Prop), (∀ {h' tk' m' all}, Fr h₀ env.locals h' m' → News h₀ env.locals h' all → ∀ nw', (∀ p ∈ (I, it) :: nw', p ∈ all) → (∀ p ∈ nw', p.1 ≠ I) → P us m' nw' → Q' .next { s with heap := h', toks := tk' }) → Fr h₀ env.locals h (fun y => if y = x then some (.str c u) else m y) → News h₀ env.locals h ((I, it) :: nw) →
      wpAny (model prog w) A (execs body env) Q' E' { s with heap := h, toks := tk })
    (done : ∀ m nw, P [] m nw → ∀ h tk, Fr h₀ env.locals h m → News h₀ env.locals h nw → Q .next { s with heap := h, toks := tk }) :
    ∀ us m nw, P us m nw → StrRest prog w A E h₀ env x body Q s I us m nw :=
  StrInd P (fun v us m nw h u it hp tk F N => wpAny_mono (turn v us m nw h u it hp tk (UnrPost h₀ env.locals { s with heap := hp, toks := tk } I it (fun m' n' => P us m' n') Q) E (fun F' N' nw' sub off r => UnrEnd.intro (s₁ := { s with heap := hp, toks := tk }) F' N' nw' sub off r) F N) (fun _ _ p => p) fun _ _ e => e) done
theorem RangeIndQ {I : Addr} {a : Int} {n : Nat} (P : Nat → Nat → (PySem.Str → Option Value) → Led → Prop)
    (turn : ∀ k i m nw, P (k + 1) i m nw → ∀ (t : Tok) (it : Obj) h tk (Q' : Flow → Shared → Prop) (E' : Value → Shared → Prop), (∀ {h' tk' m' all}, Fr h₀ env.locals h' m' → News h₀ env.locals h' all → ∀ nw', (∀ p ∈ (I, it) :: nw', p ∈ all) → (∀ p ∈ nw', p.1 ≠ I) → P k (i + 1) m' nw' → Q' .next { s with heap := h', toks := tk' }) → Fr h₀ env.locals h (fun y => if y = x then some (.int (a + (i : Int)) t) else m y) → News h₀ env.locals h ((I, it) :: nw) →
      wpAny (model prog w) A (execs body env) Q' E' { s with heap := h, toks := tk })
    (done : ∀ i m nw, P 0 i m nw → ∀ h tk, Fr h₀ env.locals h m → News h₀ env.locals h nw → Q .next { s with heap := h, toks := tk }) :
    ∀ k i m nw, P k i m nw → RangeRest prog w A E h₀ env x body Q s I a n k i m nw :=
  RangeInd P (fun k i m nw h u it hp tk F N => wpAny_mono (turn k i m nw h u it hp tk (UnrPost h₀ env.locals { s with heap := hp, toks := tk } I it (fun m' n' => P k (i + 1) m' n') Q) E (fun F' N' nw' sub off r => UnrEnd.intro (s₁ := { s with heap := hp, toks := tk }) F' N' nw' sub off r) F N) (fun _ _ p => p) fun _ _ e => e) done
end
theorem ledA {ext news : Led} {a b c : Addr × Obj} : ∀ p ∈ a :: b :: c :: (ext ++ news), p ∈ a :: b :: (ext ++ c :: news) := by
  intro p hp
  simp only [List.mem_cons, List.mem_append] at hp ⊢
  grind
theorem offI_of {I : Addr} {it : Obj} : ∀ {l : Led}, (∀ p ∈ l, p.1 < I) → OffI I it l
  | [], _ => trivial
  | p :: l, h => ⟨.inl (Nat.ne_of_lt (h p (.head _))), offI_of fun q hq => h q (.tail _ hq)⟩
theorem ints_rev : ∀ {vs : List Value} {ns : List Int}, IntsAre vs ns → ∀ {us : List Value} {ms : List Int}, IntsAre us ms → IntsAre (vs.reverse ++ us) (ns.reverse ++ ms)
  | _, _, .nil, _, _, h => h
  | _, _, .cons i t h, us, ms, h2 => by
    rw [List.reverse_cons, List.reverse_cons, List.append_assoc, List.append_assoc]
    exact ints_rev h (.cons i t h2)
theorem ints_reverse {vs : List Value} {ns : List Int} (h : IntsAre vs ns) : IntsAre vs.reverse ns.reverse := by
  have := ints_rev h .nil
  simpa using this
theorem ints_push {vs : List Value} {ns : List Int} (h : IntsAre vs ns) (i : Int) (t : Tok) : IntsAre (vs ++ [.int i t]) (ns ++ [i]) := by
  induction h with
  | nil => exact .cons i t .nil
  | cons j u _ ih => exact .cons j u ih
/-- a frame's names, those that are known written out -/
theorem mx1 {m : PySem.Str → Option Value} {a : PySem.Str} {va : Value} (ha : m a = some va) : m = fun y => if y = a then some va else m y := by
  funext y; split <;> simp_all
theorem mx2 {m : PySem.Str → Option Value} {a b : PySem.Str} {va vb : Value} (ha : m a = some va) (hb : m b = some vb) : m = fun y => if y = a then some va else if y = b then some vb else m y := by
  funext y; (repeat' split) <;> simp_all
theorem mx3 {m : PySem.Str → Option Value} {a b c : PySem.Str} {va vb vc : Value} (ha : m a = some va) (hb : m b = some vb) (hc : m c = some vc) : m = fun y => if y = a then some va else if y = b then some vb else if y = c then some vc else m y := by
  funext y; (repeat' split) <;> simp_all
theorem mx4 {m : PySem.Str → Option Value} {a b c d : PySem.Str} {va vb vc vd : Value} (ha : m a = some va) (hb : m b = some vb) (hc : m c = some vc) (hd : m d = some vd) : m = fun y => if y = a then some va else if y = b then some vb else if y = c then some vc else if y = d then some vd else m y := by
  funext y; (repeat' split) <;> simp_all
section
variable {C : Prop} {h₀ h : Heap} {L : Addr} {m : PySem.Str → Option Value} {a b c : PySem.Str} {va vb vc : Value}
theorem frGen2 (F : Fr h₀ L h m) (ha : m a = some va) (hb : m b = some vb) (k : ∀ m0 : PySem.Str → Option Value, Fr h₀ L h (fun y => if y = a then some va else if y = b then some vb else m0 y) → C) : C := k m (mx2 ha hb ▸ F)
theorem frGen3 (F : Fr h₀ L h m) (ha : m a = some va) (hb : m b = some vb) (hc : m c = some vc) (k : ∀ m0 : PySem.Str → Option Value, Fr h₀ L h (fun y => if y = a then some va else if y = b then some vb else if y = c then some vc else m0 y) → C) : C := k m (mx3 ha hb hc ▸ F)
end
section
variable {prog : PySem.Program} {w : World} {A : Around} {E : Value → Shared → Prop} {s : Shared} {h₀ : Heap} {L : Addr} {m : PySem.Str → Option Value} {news : Led} {Q : Value → Shared → Prop}
theorem my_divmod {x b : Nat} {t u : Tok} (F : Fr h₀ L s.heap m) (N : News h₀ L s.heap news) (hb : 0 < b) (hb9 : b < 1073741824)
    (h : ∀ D h' tk' u1 u2, Fr h₀ L h' m → News h₀ L h' ((D, tup [.int ((x / b : Nat) : Int) u1, .int ((x % b : Nat) : Int) u2]) :: news) → (∀ p ∈ news, p.1 < D) → Q (.ref D) { s with heap := h', toks := tk' }) :
    wpAny (model prog w) A (call (.builtin "divmod") [.int (x : Int) t, .int (b : Int) u]) Q E s := by
  refine divmod_N F N (by omega) (fun h' F' N' => ?_) (Or.inl (PyProof.noPylong_small (by omega)))
  have e1 : (x : Int).fdiv (b : Int) = ((x / b : Nat) : Int) := (Int.ofNat_fdiv x b).symm
  have e2 : (x : Int).fmod (b : Int) = ((x % b : Nat) : Int) := by
    rw [Int.fmod_eq_emod_of_nonneg _ (by omega)]; norm_cast
  rw [e1, e2] at N'
  exact h _ _ _ _ _ F' N' fun p hp => Heap.lt_size (N p hp).1
end
/-- the long division, figure by figure from the highest -/
noncomputable def divLoop (B b : Nat) : List Nat → Nat → List Nat → Nat × List Nat
  | [], r, q => (r, q)
  | d :: ds, r, q => divLoop B b ds ((r * B + d) % b) (q ++ [(r * B + d) / b])
theorem divLoop_spec (B b : Nat) (hb : 0 < b) : ∀ (ds : List Nat) (r : Nat) (q : List Nat), r < b → (∀ d ∈ ds, d < B) → (∀ d ∈ q, d < B) →
    (divLoop B b ds r q).1 = (r * B ^ ds.length + valN B ds.reverse) % b ∧ (divLoop B b ds r q).2.length = q.length + ds.length ∧ (∀ d ∈ (divLoop B b ds r q).2, d < B) ∧
    valN B (divLoop B b ds r q).2.reverse = valN B q.reverse * B ^ ds.length + (r * B ^ ds.length + valN B ds.reverse) / b
  | [], r, q, hr, _, hq => by
    simp only [divLoop, List.length_nil, Nat.pow_zero, Nat.mul_one, List.reverse_nil, valN, Nat.add_zero]
    exact ⟨(Nat.mod_eq_of_lt hr).symm, trivial, hq, by rw [Nat.div_eq_of_lt hr, Nat.add_zero]⟩
  | d :: ds, r, q, hr, hd, hq => by
    have hd0 := hd d (.head _)
    have hlt : (r * B + d) / b < B := by
      rw [Nat.div_lt_iff_lt_mul hb]
      have h1 : (r + 1) * B ≤ b * B := Nat.mul_le_mul_right B hr
      rw [Nat.add_mul, Nat.one_mul] at h1
      rw [Nat.mul_comm B b]
      omega
    have ih := divLoop_spec B b hb ds ((r * B + d) % b) (q ++ [(r * B + d) / b]) (Nat.mod_lt _ hb) (fun x hx => hd x (.tail _ hx)) (by
      intro x hx
      rcases List.mem_append.mp hx with hx | hx
      · exact hq x hx
      · rw [List.mem_singleton.mp hx]; exact hlt)
    obtain ⟨i1, i2, i3, i4⟩ := ih
    have hv : valN B (d :: ds).reverse = valN B ds.reverse + B ^ ds.length * d := by
      rw [List.reverse_cons, valN_append, List.length_reverse]
      simp [valN]
    have hq2 : valN B (q ++ [(r * B + d) / b]).reverse = (r * B + d) / b + B * valN B q.reverse := by
      rw [List.reverse_append]; rfl
    have hz : r * B ^ (d :: ds).length + valN B (d :: ds).reverse = (r * B + d) * B ^ ds.length + valN B ds.reverse := by
      rw [hv, List.length_cons, Nat.pow_succ, Nat.add_mul, Nat.mul_assoc r B, Nat.mul_comm B (B ^ ds.length), Nat.mul_comm (B ^ ds.length) d]
      omega
    have hdm := Nat.div_add_mod (r * B + d) b
    refine ⟨?_, ?_, i3, ?_⟩
    · rw [divLoop, i1, hz]
      have e : (r * B + d) * B ^ ds.length = b * ((r * B + d) / b * B ^ ds.length) + (r * B + d) % b * B ^ ds.length := by
        rw [← Nat.mul_assoc, ← Nat.add_mul, hdm]
      rw [e, Nat.add_assoc, Nat.mul_add_mod]
    · rw [divLoop, i2]; simp; omega
    · rw [divLoop, i4, hz, hq2]
      have e : (r * B + d) * B ^ ds.length = b * ((r * B + d) / b * B ^ ds.length) + (r * B + d) % b * B ^ ds.length := by
        rw [← Nat.mul_assoc, ← Nat.add_mul, hdm]
      rw [e, Nat.add_assoc, Nat.mul_add_div hb, Nat.add_mul, List.length_cons, Nat.pow_succ, Nat.mul_comm B (valN B q.reverse), Nat.mul_assoc (valN B q.reverse) B, Nat.mul_comm B (B ^ ds.length)]
      omega
/-- the figures as naturals -/
noncomputable def digsN (B : Nat) : Nat → Nat → List Nat
  | 0, _ => []
  | 1, x => [x]
  | k + 2, x => x % B :: digsN B (k + 1) (x / B)
theorem digs_cast (B : Nat) : ∀ k x, digs B k x = castL (digsN B k x)
  | 0, _ => rfl
  | 1, _ => rfl
  | k + 2, x => by rw [digs, digsN, digs_cast B (k + 1)]; rfl
theorem digsN_length (B k x : Nat) : (digsN B k x).length = k := by
  have := digs_length B k x
  rw [digs_cast] at this
  simpa [castL] using this
theorem digsN_lt {B : Nat} (hB : 0 < B) : ∀ k x, x < B ^ k → ∀ d ∈ digsN B k x, d < B
  | 0, _, _, _, h => nomatch h
  | 1, x, hx, d, h => by
    rw [digsN] at h
    rw [List.mem_singleton.mp h]
    simpa using hx
  | k + 2, x, hx, d, h => by
    rw [digsN] at h
    rcases List.mem_cons.mp h with rfl | h
    · exact Nat.mod_lt _ hB
    · refine digsN_lt hB (k + 1) (x / B) ?_ d h
      rw [Nat.div_lt_iff_lt_mul hB]
      rwa [Nat.pow_succ] at hx
theorem valN_digsN {B : Nat} : ∀ k x, (k = 0 → x = 0) → valN B (digsN B k x) = x
  | 0, x, h => by rw [h rfl]; rfl
  | 1, x, _ => by simp [digsN, valN]
  | k + 2, x, _ => by
    rw [digsN, valN, valN_digsN (k + 1) (x / B) (by omega)]
    exact Nat.mod_add_div x B
theorem bits_room {x n k : Nat} (hn : 0 < n) (hk : ((Builtin.Int.intBits x : Int) + n - 1).fdiv n = (k : Int)) : x < (2 ^ n) ^ k := by
  have e : ((Builtin.Int.intBits x : Int) + n - 1) = ((Builtin.Int.intBits x + n - 1 : Nat) : Int) := by omega
  rw [e, ← Int.ofNat_fdiv] at hk
  have h2 : (Builtin.Int.intBits x + n - 1) / n = k := by exact_mod_cast hk
  have h3 : Builtin.Int.intBits x ≤ n * k := by
    have h4 := Nat.div_add_mod (Builtin.Int.intBits x + n - 1) n
    have h5 := Nat.mod_lt (Builtin.Int.intBits x + n - 1) hn
    rw [h2] at h4
    generalize n * k = z at *
    omega
  have h6 := (intBits_le_iff (x := (x : Int))).mp h3
  rw [← Nat.pow_mul]
  simpa using h6
theorem pow_bits_pos {b : Nat} (hb : 0 < b) : 0 < Builtin.Int.intBits (b : Int) := by
  rcases Nat.eq_zero_or_pos (Builtin.Int.intBits (b : Int)) with h | h
  · have := (intBits_le_iff (m := 0) (x := (b : Int))).mp (by omega)
    simp at this; omega
  · exact h
noncomputable def DivP (Dq : Addr) (fx : Led) (b n : Nat) (R : Nat × List Nat) (us : List Value) (m : PySem.Str → Option Value) (nw : Led) : Prop :=
  ∀ C : Led → Prop, (∀ (rd : List Nat) (r : Nat) (q : List Nat) (qv : List Value) (tr tb tn : Tok) (c : Nat), IntsAre us (castL rd) → IntsAre qv (castL q) →
    m (PySem.Str.ofString "r") = some (.int r tr) → m (PySem.Str.ofString "b") = some (.int b tb) → m (PySem.Str.ofString "n") = some (.int n tn) → m (PySem.Str.ofString "q_digits") = some (.ref Dq) →
    r < b → (∀ d ∈ rd, d < 2 ^ n) → q.length + rd.length < 200 → divLoop (2 ^ n) b rd r q = R → C ((Dq, W.listOf qv.toArray c) :: fx)) → C nw
end Mine
end
section
open PySem PySem.W PyProof.Rows PySem.Calls PySem.Spec
namespace Mine
theorem ints_cons {v : Value} {us : List Value} {d : Nat} {rd : List Nat} (h : IntsAre (v :: us) (castL (d :: rd))) : ∃ t, v = .int (d : Int) t ∧ IntsAre us (castL rd) := by
  cases h with
  | cons _ t h => exact ⟨t, rfl, h⟩
theorem ints_none {v : Value} {us : List Value} (h : IntsAre (v :: us) (castL [])) : False := by cases h
theorem ints_end {d : Nat} {rd : List Nat} (h : IntsAre [] (castL (d :: rd))) : False := by cases h
theorem ints_pushN {vs : List Value} {q : List Nat} (h : IntsAre vs (castL q)) (x : Nat) (t : Tok) : IntsAre (vs ++ [.int (x : Int) t]) (castL (q ++ [x])) := by
  have := ints_push h (x : Int) t
  simpa [castL] using this
theorem div_room {r d b n : Nat} (hr : r < b) (hb : b < 1073741824) (hd : d < 2 ^ n) (hn : n ≤ 30) : r * 2 ^ n + d < 2 ^ 100 := by
  have h1 : 2 ^ n ≤ 2 ^ 30 := Nat.pow_le_pow_right (by decide) hn
  have h2 : r * 2 ^ n ≤ 1073741824 * 2 ^ 30 := Nat.mul_le_mul (by omega) h1
  omega
theorem ne_lt {l : Led} {c : Nat} (h : ∀ p ∈ l, p.1 < c) : ∀ p ∈ l, p.1 ≠ c := fun p hp => Nat.ne_of_lt (h p hp)
section
variable {prog : PySem.Program} {w : World} {A : Around} {E : Value → Shared → Prop} {s : Shared} {h₀ : Heap} {L D : Addr} {m : PySem.Str → Option Value} {news news' : Led} {Q : Value → Shared → Prop}
theorem my_reverse {vs : List Value} {n : Nat} (F : Fr h₀ L s.heap m) (N : News h₀ L s.heap news) (U : Upd D (W.listOf vs.toArray n) (W.listOf vs.reverse.toArray n) news news') (hz : vs.length ≤ 1000000)
    (h : ∀ h', Fr h₀ L h' m → News h₀ L h' news' → Q .none { s with heap := h' }) : wpAny (model prog w) A (call (.builtin "list.reverse") [.ref D]) Q E s :=
  kl_reverse F N (its := vs.toArray) rfl U (by rw [sizeLine_eq]; simp; omega) h
end
theorem divAll {n b k x : Nat} {r : Nat} {q : List Nat} (hb : 0 < b) (hx : x < (2 ^ n) ^ k) (h : divLoop (2 ^ n) b [] r q = divLoop (2 ^ n) b (digsN (2 ^ n) k x).reverse 0 []) :
    r = x % b ∧ valN (2 ^ n) q.reverse = x / b ∧ (∀ d ∈ q.reverse, d < 2 ^ n) ∧ q.reverse.length = k := by
  have hz := divLoop_spec (2 ^ n) b hb (digsN (2 ^ n) k x).reverse 0 [] hb (fun d hd => digsN_lt (Nat.two_pow_pos n) k x hx d (List.mem_reverse.mp hd)) (fun _ h => nomatch h)
  rw [← h] at hz
  have hv : valN (2 ^ n) (digsN (2 ^ n) k x) = x := valN_digsN k x (fun h0 => by subst h0; simpa using hx)
  simp only [divLoop, List.reverse_reverse, hv, Nat.zero_mul, Nat.zero_add, List.length_reverse, digsN_length, List.length_nil, List.reverse_nil, valN] at hz
  obtain ⟨z1, z2, z3, z4⟩ := hz
  exact ⟨z1, z4, fun d hd => z3 d (List.mem_reverse.mp hd), by rw [List.length_reverse, z2]⟩
theorem endLed {ext2 ext news : Led} {D P Q R : Addr × Obj} : ∀ p ∈ D :: P :: Q :: ((ext2 ++ ext) ++ news), p ∈ D :: Q :: (ext2 ++ R :: P :: (ext ++ news)) := by
  intro p hp
  simp only [List.mem_cons, List.mem_append] at hp ⊢
  grind
theorem app_mono {ext2 ext news : Led} : ∀ p ∈ ext ++ news, p ∈ (ext2 ++ ext) ++ news := by
  intro p hp
  simp only [List.mem_append] at hp ⊢
  grind
theorem app_monoR {ext2 ext T0 : Led} : ∀ p ∈ ext2 ++ T0, p ∈ (ext2 ++ ext) ++ T0 := by
  intro p hp
  simp only [List.mem_append] at hp ⊢
  grind
theorem fresh_app {ext2 ext news : Led} {P Q : Addr × Obj} {a b : Addr} (h2 : ∀ q ∈ ext2, (∀ p ∈ P :: Q :: (ext ++ news), p.1 < q.1) ∧ a < q.1) (h1 : ∀ q ∈ ext, (∀ p ∈ (a, b') :: news, p.1 < q.1) ∧ b < q.1) : ∀ q ∈ ext2 ++ ext, (∀ p ∈ news, p.1 < q.1) ∧ a < q.1 := by
  intro q hq
  rcases List.mem_append.mp hq with hq | hq
  · exact ⟨fun p hp => (h2 q hq).1 p (.tail _ (.tail _ (List.mem_append.mpr (.inr hp)))), (h2 q hq).2⟩
  · exact ⟨fun p hp => (h1 q hq).1 p (.tail _ hp), (h1 q hq).1 _ (.head _)⟩
theorem div_k {x b : Nat} (hx : x < 2 ^ 60) (hb : 0 < b) (hb9 : b < 65536) : ∃ n k : Nat, Builtin.Int.intBits (b : Int) = n ∧ ((Builtin.Int.intBits x : Int) + n - 1).fdiv n = (k : Int) ∧ n * k ≤ 80 ∧ k < 200 := by
  refine ⟨_, (Builtin.Int.intBits (x : Int) + Builtin.Int.intBits (b : Int) - 1) / Builtin.Int.intBits (b : Int), rfl, ?_, ?_, ?_⟩
  · have h1 := pow_bits_pos hb
    have e : ((Builtin.Int.intBits x : Int) + (Builtin.Int.intBits (b : Int) : Int) - 1) = ((Builtin.Int.intBits x + Builtin.Int.intBits (b : Int) - 1 : Nat) : Int) := by omega
    rw [e, ← Int.ofNat_fdiv]
  · have h2 : Builtin.Int.intBits (x : Int) ≤ 60 := intBits_le_iff.mpr (by omega)
    have h3 : Builtin.Int.intBits (b : Int) ≤ 16 := intBits_le_iff.mpr (by omega)
    have h4 := Nat.mul_div_le (Builtin.Int.intBits (x : Int) + Builtin.Int.intBits (b : Int) - 1) (Builtin.Int.intBits (b : Int))
    omega
  · have h2 : Builtin.Int.intBits (x : Int) ≤ 60 := intBits_le_iff.mpr (by omega)
    have h3 : Builtin.Int.intBits (b : Int) ≤ 16 := intBits_le_iff.mpr (by omega)
    have h4 := Nat.div_le_self (Builtin.Int.intBits (x : Int) + Builtin.Int.intBits (b : Int) - 1) (Builtin.Int.intBits (b : Int))
    omega
theorem fdm_nat (x b : Nat) : (((x / b : Nat) : Int) = (x : Int).fdiv (b : Int)) ∧ (((x % b : Nat) : Int) = (x : Int).fmod (b : Int)) := by
  refine ⟨Int.ofNat_fdiv x b, ?_⟩
  rw [Int.fmod_eq_emod_of_nonneg _ (by omega)]; norm_cast
theorem fdm_not (a : Int) (b : Nat) (hb : 0 < b) : a.fdiv b = -((-a - 1).fdiv b) - 1 ∧ a.fmod b = b + (-((-a - 1).fmod b) - 1) := by
  have hb' : (0 : Int) < b := by omega
  rw [Int.fdiv_eq_ediv_of_nonneg _ (by omega), Int.fdiv_eq_ediv_of_nonneg _ (by omega), Int.fmod_eq_emod_of_nonneg _ (by omega), Int.fmod_eq_emod_of_nonneg _ (by omega)]
  have h1 := Int.emod_add_mul_ediv a b
  have h2 := Int.emod_add_mul_ediv (-a - 1) b
  have h3 := Int.emod_nonneg a (by omega : (b : Int) ≠ 0)
  have h4 := Int.emod_lt_of_pos a hb'
  have h5 := Int.emod_nonneg (-a - 1) (by omega : (b : Int) ≠ 0)
  have h6 := Int.emod_lt_of_pos (-a - 1) hb'
  have key : a / b + (-a - 1) / b = -1 := by
    have e : (b : Int) * (a / b + (-a - 1) / b) = -1 - (a % b + (-a - 1) % b) := by rw [Int.mul_add]; omega
    generalize a / (b : Int) + (-a - 1) / (b : Int) = z at e
    have h7 : ¬ (0 ≤ z) := fun h => by have := Int.mul_nonneg (Int.le_of_lt hb') h; omega
    have h8 : ¬ (z ≤ -2) := fun h => by
      have := Int.mul_le_mul_of_nonneg_left h (Int.le_of_lt hb')
      omega
    omega
  refine ⟨by omega, ?_⟩
  have e : (b : Int) * (a / b + (-a - 1) / b) = -1 - (a % b + (-a - 1) % b) := by rw [Int.mul_add]; omega
  rw [key] at e
  omega
theorem tupII {D : Addr} {x y x' y' : Int} {t u : Tok} {news : Led} (h1 : x = x') (h2 : y = y') :
    ((D, ({ cls := .type "tuple", data := .seq #[.int x t, .int y u] } : Obj)) :: news) = (D, tup [.int x' t, .int y' u]) :: news := by
  subst h1; subst h2; rfl
theorem dropLed {ext news : Led} {D E P Q : Addr × Obj} : ∀ p ∈ D :: P :: Q :: (ext ++ news), p ∈ D :: E :: P :: Q :: (ext ++ news) := by
  intro p hp
  simp only [List.mem_cons, List.mem_append] at hp ⊢
  grind
theorem not1 (x : Int) (b : Nat) (hb : 0 < b) : Builtin.bitNot ((Builtin.bitNot x).fdiv b) = x.fdiv b ∧ (b : Int) + Builtin.bitNot ((Builtin.bitNot x).fmod b) = x.fmod b := by
  obtain ⟨h1, h2⟩ := fdm_not x b hb
  have e : ∀ z, Builtin.bitNot z = -z - 1 := fun z => by unfold Builtin.bitNot; omega
  rw [e, e, e]
  exact ⟨h1.symm, h2.symm⟩
section
variable {Dq : Addr} {fx : Led} {b n : Nat} {R : Nat × List Nat} {m : PySem.Str → Option Value} {nw : Led}
theorem DivP.turn {v : Value} {us : List Value} {C : Value → Led → Prop} (h : DivP Dq fx b n R (v :: us) m nw)
    (k : ∀ (d : Nat) (td : Tok) (rd : List Nat) (r : Nat) (q : List Nat) (qv : List Value) (tr tb tn : Tok) (c : Nat), IntsAre us (castL rd) → IntsAre qv (castL q) →
      m (PySem.Str.ofString "r") = some (.int r tr) → m (PySem.Str.ofString "b") = some (.int b tb) → m (PySem.Str.ofString "n") = some (.int n tn) → m (PySem.Str.ofString "q_digits") = some (.ref Dq) →
      r < b → (∀ x ∈ d :: rd, x < 2 ^ n) → q.length + (d :: rd).length < 200 → divLoop (2 ^ n) b (d :: rd) r q = R → C (.int (d : Int) td) ((Dq, W.listOf qv.toArray c) :: fx)) : C v nw := by
  refine h _ fun rd r q qv tr tb tn c hus hqv e1 e2 e3 e4 hr hrd hlen hR => ?_
  cases rd with
  | nil => exact (ints_none hus).elim
  | cons d rd =>
    obtain ⟨td, rfl, hus2⟩ := ints_cons hus
    exact k d td rd r q qv tr tb tn c hus2 hqv e1 e2 e3 e4 hr hrd hlen hR
theorem DivP.done {C : Led → Prop} (h : DivP Dq fx b n R [] m nw)
    (k : ∀ (r : Nat) (q : List Nat) (qv : List Value) (tr tb tn : Tok) (c : Nat), IntsAre qv (castL q) →
      m (PySem.Str.ofString "r") = some (.int r tr) → m (PySem.Str.ofString "b") = some (.int b tb) → m (PySem.Str.ofString "n") = some (.int n tn) → m (PySem.Str.ofString "q_digits") = some (.ref Dq) →
      r < b → q.length < 200 → divLoop (2 ^ n) b [] r q = R → C ((Dq, W.listOf qv.toArray c) :: fx)) : C nw := by
  refine h _ fun rd r q qv tr tb tn c hus hqv e1 e2 e3 e4 hr hrd hlen hR => ?_
  cases rd with
  | cons d rd => exact (ints_end hus).elim
  | nil => exact k r q qv tr tb tn c hqv e1 e2 e3 e4 hr hlen hR
end
end Mine
end
section
open PySem PySem.W PyProof.Rows PySem.Calls PySem.Spec
open PySem.StrLaws PySem.Builtin.Str
namespace Mine
/-- a text's signs, every P giving way to Z, from the left -/
noncomputable def replL (P Z : List Nat) : List Nat → Nat → List Nat
  | [], _ => []
  | c :: r, 0 => if P.isPrefixOf (c :: r) then Z ++ replL P Z r (P.length - 1) else c :: replL P Z r 0
  | _ :: r, k + 1 => replL P Z r k
theorem replL_skip (P Z : List Nat) : ∀ (L : List Nat) (k : Nat), replL P Z L k = replL P Z (L.drop k) 0
  | [], k => by cases k <;> simp [replL]
  | c :: r, 0 => rfl
  | c :: r, k + 1 => by rw [replL, replL_skip P Z r k, List.drop_succ_cons]
theorem replL_gap (P Z : List Nat) : ∀ (j : Nat) (L : List Nat), j ≤ L.length → (∀ k, k < j → ¬ P.isPrefixOf (L.drop k) = true) → replL P Z L 0 = L.take j ++ replL P Z (L.drop j) 0
  | 0, L, _, _ => by simp
  | j + 1, [], h, _ => by simp at h
  | j + 1, c :: r, h, hn => by
    have h0 := hn 0 (Nat.succ_pos j)
    rw [List.drop_zero] at h0
    rw [replL, if_neg h0, replL_gap P Z j r (by simpa using h) (fun k hk => by have := hn (k + 1) (by omega); simpa using this)]
    rfl
theorem replL_hit (P Z : List Nat) (hP : P ≠ []) (L : List Nat) (h : P.isPrefixOf L = true) : replL P Z L 0 = Z ++ replL P Z (L.drop P.length) 0 := by
  cases L with
  | nil => cases P with
    | nil => exact absurd rfl hP
    | cons _ _ => simp [List.isPrefixOf] at h
  | cons c r =>
    cases P with
    | nil => exact absurd rfl hP
    | cons p q =>
      rw [replL, if_pos h, replL_skip]
      rfl
theorem at_iff (x y : PySem.Str) (k : Nat) (hy : 1 ≤ y.length) : StrLaws.At x y x.length k ↔ y.cps.toList.isPrefixOf (x.cps.toList.drop k) = true := by
  have hl : x.cps.toList.length = x.length := by simp [PySem.Str.length]
  have hly : y.cps.toList.length = y.length := by simp [PySem.Str.length]
  unfold StrLaws.At
  rw [subAt_eq, List.isPrefixOf_iff_prefix, List.prefix_iff_eq_take, hly]
  constructor
  · rintro ⟨_, h⟩
    exact (eq_of_beq h).symm
  · intro h
    refine ⟨?_, ?_⟩
    · have := congrArg List.length h
      rw [hly, List.length_take, List.length_drop, hl] at this
      omega
    · rw [← h]; exact beq_self_eq_true _
theorem sub_list (x : PySem.Str) (i j : Nat) : (strSub x i j).cps.toList = (x.cps.toList.drop i).take (j - i) := strSub_toList x i j
theorem join_list2 (z p : PySem.Str) (q : List PySem.Str) (h : q ≠ []) : (PySem.Str.join z (p :: q)).cps.toList = p.cps.toList ++ z.cps.toList ++ (PySem.Str.join z q).cps.toList := by
  cases q with
  | nil => exact absurd rfl h
  | cons a b =>
    show (p ++ z ++ PySem.Str.join z (a :: b)).cps.toList = _
    simp [PySem.Str.cps_append]
theorem rep_parts (x y z : PySem.Str) (hy : 1 ≤ y.length) : ∀ (cuts : List Nat) (a f : Nat), ChainG x y x.length a cuts f → (∀ k, f ≤ k → ¬ StrLaws.At x y x.length k) → a ≤ x.length →
    (PySem.Str.join z (partsFrom x y.length a cuts)).cps.toList = replL y.cps.toList z.cps.toList (x.cps.toList.drop a) 0
  | [], a, f, h, hn, ha => by
    have e : f = a := h
    subst e
    have hl : x.cps.toList.length = x.length := by simp [PySem.Str.length]
    show (strSub x f x.length).cps.toList = _
    rw [sub_list, replL_gap _ _ ((x.cps.toList.drop f).length) _ (Nat.le_refl _) (fun k hk hp => by
      rw [List.drop_drop] at hp
      exact hn (f + k) (by omega) ((at_iff x y (f + k) hy).mpr hp))]
    rw [List.drop_length]
    simp only [replL, List.append_nil, List.take_length]
    exact List.take_of_length_le (by simp [hl])
  | c :: r, a, f, h, hn, ha => by
    have hl : x.cps.toList.length = x.length := by simp [PySem.Str.length]
    have hly : y.cps.toList.length = y.length := by simp [PySem.Str.length]
    obtain ⟨h1, h2, h3, h4⟩ := h
    have hc := h2.1
    have ih := rep_parts x y z hy r (c + y.length) f h4 hn hc
    obtain ⟨p, q, e⟩ := partsFrom_ne x y.length (c + y.length) r
    show (PySem.Str.join z (strSub x a c :: partsFrom x y.length (c + y.length) r)).cps.toList = _
    rw [join_list2 _ _ _ (by rw [e]; exact List.cons_ne_nil _ _), ih, sub_list]
    rw [replL_gap _ _ (c - a) (x.cps.toList.drop a) (by simp [hl]; omega) (fun k hk hp => by
      rw [List.drop_drop] at hp
      exact h3 (a + k) (by omega) (by omega) ((at_iff x y (a + k) hy).mpr hp))]
    rw [List.drop_drop, show a + (c - a) = c by omega]
    have hpre := (at_iff x y c hy).mp h2
    rw [replL_hit _ _ (by intro e0; rw [e0] at hly; simp at hly; omega) _ hpre, List.drop_drop, hly, List.append_assoc]
theorem strKind_pos (x : PySem.Str) : 1 ≤ PySem.Builtin.Str.strKind x := by
  unfold PySem.Builtin.Str.strKind
  (repeat' split) <;> omega
theorem rep_list (x y z : PySem.Str) (hy : 1 ≤ y.length) (hk : PySem.Builtin.Str.strKind y = 1) : (Txt.join z (Txt.split x y)).cps.toList = replL y.cps.toList z.cps.toList x.cps.toList 0 := by
  have hl : x.cps.toList.length = x.length := by simp [PySem.Str.length]
  show (PySem.Builtin.Str.glued z (Txt.split x y)).cps.toList = _
  rw [glued_eq_join]
  obtain ⟨f, hG, hn⟩ := occ_tight x y hy
  have key := rep_parts x y z hy _ 0 f hG hn (Nat.zero_le _)
  rw [List.drop_zero] at key
  unfold Txt.split
  split
  · rename_i hc
    have hlt : x.length < y.length := by
      have := strKind_pos x
      rw [hk] at hc
      simp only [Bool.or_eq_true, decide_eq_true_eq] at hc
      omega
    have hz : occurrences x y 0 x.length (x.length + 1) = [] := by
      cases ho : occurrences x y 0 x.length (x.length + 1) with
      | nil => rfl
      | cons c r =>
        rw [ho] at hG
        have := hG.2.1.1
        omega
    rw [hz] at key
    rw [← key]
    show x.cps.toList = (strSub x 0 x.length).cps.toList
    rw [sub_whole]
  · split
    · rename_i _ he
      rw [List.isEmpty_iff] at he
      rw [he] at key
      rw [← key]
      show x.cps.toList = (strSub x 0 x.length).cps.toList
      rw [sub_whole]
    · rw [partsBetween_eq]; exact key
theorem parts_weight (x y : PySem.Str) (hy : 1 ≤ y.length) : ∀ (cuts : List Nat) (a f : Nat), ChainG x y x.length a cuts f → a ≤ x.length →
    ((partsFrom x y.length a cuts).map (·.length)).sum + (partsFrom x y.length a cuts).length ≤ x.length - a + 1
  | [], a, f, h, ha => by
    show ([(strSub x a x.length)].map (·.length)).sum + 1 ≤ _
    have : (strSub x a x.length).length = x.length - a := by
      have := congrArg List.length (sub_list x a x.length)
      simp [PySem.Str.length] at this ⊢
      omega
    simp [this]
  | c :: r, a, f, h, ha => by
    obtain ⟨h1, h2, h3, h4⟩ := h
    have ih := parts_weight x y hy r (c + y.length) f h4 h2.1
    have : (strSub x a c).length = c - a := by
      have := congrArg List.length (sub_list x a c)
      have hc := h2.1
      simp [PySem.Str.length] at this hc ⊢
      omega
    show ((strSub x a c :: partsFrom x y.length (c + y.length) r).map (·.length)).sum + (partsFrom x y.length (c + y.length) r).length + 1 ≤ _
    rw [List.map_cons, List.sum_cons, this]
    have := h2.1
    omega
theorem split_weight (x y : PySem.Str) (hy : 1 ≤ y.length) : ((Txt.split x y).map (·.length)).sum + (Txt.split x y).length ≤ x.length + 1 := by
  obtain ⟨f, hG, hn⟩ := occ_tight x y hy
  have key := parts_weight x y hy _ 0 f hG (Nat.zero_le _)
  unfold Txt.split
  split
  · simp
  · split
    · simp
    · rw [partsBetween_eq]; omega
section
variable {prog : PySem.Program} {w : World} {A : Around} {E : Value → Shared → Prop} {s : Shared} {h₀ : Heap} {L D : Addr} {m : PySem.Str → Option Value} {news : Led} {Q : Value → Shared → Prop}
theorem my_join {x y z : PySem.Str} {t : Tok} {l : List (PySem.Str × Tok)} (N : News h₀ L s.heap news) (hm : (D, W.listOf (strValues l).toArray 0) ∈ news) (e : l.map (·.1) = Txt.split x y) (hy : 1 ≤ y.length) (hk : PySem.Builtin.Str.strKind y = 1) (hx : x.length ≤ 100000) (hz : z.length ≤ 64)
    (h : ∀ x' t' k, x'.cps.toList = replL y.cps.toList z.cps.toList x.cps.toList 0 → Q (.str x' t') { s with toks := k }) :
    wpAny (model prog w) A (call (.builtin "str.join") [.str z t, .ref D]) Q E s := by
  have hw := split_weight x y hy
  have hs : StrsAre (strValues l).toArray.toList (l.map (·.1)) := strsAre_of_values l
  refine join_listC (ys := l.map (·.1)) ⟨_, (N _ hm).1, rfl, 0, rfl⟩ hs hz (by rw [e]; omega) (fun t' k => h _ t' k ?_)
  rw [e]
  exact rep_list x y z hy hk
theorem my_tupfrom {value slice : PySem.Expr} {t : Addr} {vs : List Value} {n : Nat} {a : Nat} {u : Tok}
    (F : Fr h₀ L s.heap m) (N : News h₀ L s.heap news) (ht : (t, ({ cls := .type "tuple", data := .seq vs.toArray n } : Obj)) ∈ news) (h1 : 1 ≤ a) (ha : a ≤ vs.length)
    (h : ∀ D h', Fr h₀ L h' m → News h₀ L h' ((D, ({ cls := .type "tuple", data := .seq (vs.drop a).toArray } : Obj)) :: news) → (∀ p ∈ news, p.1 < D) → Q (.ref D) { s with heap := h' })
    (hs : subscripted slice false (.ref t) (.ref s.heap.objs.size) = operate [.ref s.heap.objs.size, .ref t] (getItem (.ref t) (.ref s.heap.objs.size)) := by with_unfolding_all rfl)
    (hg : ∀ r, letTemporaryGo value (.ref t) r = pure () := by intro _; with_unfolding_all rfl)
    (hsz : vs.length ≤ 1000) :
    wpAny (model prog w) A (subscriptTail value slice (.ref t) (.ref s.heap.objs.size)) Q E { s with heap := s.heap.push { cls := .type "slice", data := .fields #[.int a u, .none, .none] } } :=
  slice_tuple_from F N (News.isTup N ht) h1 (by simpa using ha) (fun h' F' N' => h _ h' F' (by simpa using N') fun p hp => Nat.lt_succ_of_lt (Heap.lt_size (N p hp).1)) hs hg (by rw [sizeLine_eq]; simp; omega)
end
end Mine
end
section
open PySem PySem.W PyProof.Rows PySem.Calls PySem.Spec
open PyProof.V
namespace Mine
section
variable {prog : PySem.Program} {w : World} {A : Around} {E : Value → Shared → Prop} {s : Shared}
theorem nextOf_tuple_item {it t : Addr} {i : Nat} {items} {x : Value} {Q : Value → Shared → Prop} (hit : s.heap.IsTupleIter it t i)
    (ht : s.heap.IsTuple t items) (hx : items[i]? = some x)
    (hQ : ∀ h', h'.IsTupleIter it t (i + 1) → Heap.SameBut it s.heap h' → Q x { s with heap := h' }) :
    wpAny (model prog w) A (Builtin.SmallTypes.nextOf (.ref it)) Q E s := by
  obtain ⟨o, ho, hc, hd⟩ := id hit
  obtain ⟨ol, hol, _, nl, hdl⟩ := ht
  unfold Builtin.SmallTypes.nextOf
  refine wpAny_bind (wpAny_callSpecial?_slot (name := Str.ofString "__next__") hit.typeIs F.slot_tuple_iterator_next
    (wpAny_call_entry F.slot_tuple_iterator_next hit.typeIs F.entry_tuple_iterator_next ?_ (F.args_tuple_iterator_next_1 _)))
  show wpAny _ _ (field (.ref it) 0 >>= _) _ _ s
  refine wpAny_bind (wpAny_field ho hd (x := .ref t) rfl ?_)
  show wpAny _ _ (if (Value.ref t == Value.none) = true then _ else _) _ _ s
  rw [if_neg (show ¬ ((Value.ref t == Value.none) = true) from Bool.false_ne_true)]
  show wpAny _ _ (field (.ref it) 1 >>= _) _ _ s
  refine wpAny_bind (wpAny_field ho hd (x := .int i 0) rfl ?_)
  show wpAny _ _ (seqItems? (.ref t) >>= _) _ _ s
  refine wpAny_bind (wpAny_seqItems hol hdl ?_)
  simp only [Int.toNat_natCast, hx]
  refine wpAny_bind (wpAny_setField ho hd (by simp) (wpAny_pure ⟨x, rfl, wpAny_pure (hQ _ ?_ (Heap.SameBut.update ..))⟩))
  exact ⟨_, Heap.get?_update_self _ ho (Obj.isFreed_of_fields (Obj.data_mapFields hd _)), (Obj.cls_mapFields ..).trans hc, by
    rw [Obj.data_mapFields hd]; simp [rawInt]⟩
theorem nextOf_tuple_end {it t : Addr} {i : Nat} {items} {Q : Value → Shared → Prop} (hh : A.handled = none)
    (hit : s.heap.IsTupleIter it t i) (ht : s.heap.IsTuple t items) (hx : items[i]? = none)
    (hE : ∀ h' e, Heap.ExtBut it s.heap h' → (∃ o, h'.get? e = some o ∧ o.cls = .type "StopIteration") → E (.ref e) { s with heap := h' }) :
    wpAny (model prog w) A (Builtin.SmallTypes.nextOf (.ref it)) Q E s := by
  obtain ⟨o, ho, hc, hd⟩ := id hit
  obtain ⟨ol, hol, _, nl, hdl⟩ := ht
  unfold Builtin.SmallTypes.nextOf
  refine wpAny_bind (wpAny_callSpecial?_slot (name := Str.ofString "__next__") hit.typeIs F.slot_tuple_iterator_next
    (wpAny_call_entry F.slot_tuple_iterator_next hit.typeIs F.entry_tuple_iterator_next ?_ (F.args_tuple_iterator_next_1 _)))
  show wpAny _ _ (field (.ref it) 0 >>= _) _ _ s
  refine wpAny_bind (wpAny_field ho hd (x := .ref t) rfl ?_)
  show wpAny _ _ (if (Value.ref t == Value.none) = true then _ else _) _ _ s
  rw [if_neg (show ¬ ((Value.ref t == Value.none) = true) from Bool.false_ne_true)]
  show wpAny _ _ (field (.ref it) 1 >>= _) _ _ s
  refine wpAny_bind (wpAny_field ho hd (x := .int i 0) rfl ?_)
  show wpAny _ _ (seqItems? (.ref t) >>= _) _ _ s
  refine wpAny_bind (wpAny_seqItems hol hdl ?_)
  simp only [Int.toNat_natCast, hx]
  refine wpAny_bind (wpAny_rule (wpAny_bind (wpAny_setField ho hd (by simp) ?_)))
  show wpAny _ _ (newExc (.type "StopIteration") [] >>= _) _ _ _
  refine wpAny_bind ?_
  simp only [newExc, newTuple]
  refine wpAny_bind (wpAny_newObj_type ?_ (by size_fits))
  refine wpAny_bind (m := firstArgMember _ _) (wpAny_of_eq (a := Value.none) (by first | rfl | (simp only [firstArgMember]; rfl)) ?_)
  refine wpAny_newObj_type ?_ (by size_fits)
  simp only [raiseNew]
  refine wpAny_bind (wpAny_handled ?_)
  first | rw [show A.in1.handled = none from hh] | rw [hh]
  refine wpAny_bind (wpAny_pure (wpAny_throw ?_))
  exact hE _ _ (((Heap.SameBut.update ..).extBut.push _).push _) ⟨_, Heap.get?_push_size _ rfl, rfl⟩
end
theorem drawsTuple {prog : PySem.Program} {w : World} {A : Around} (hh : A.handled = none) (it l : Addr) (hne : l ≠ it) (items : Array Value) :
    Draws prog w A it [it, l] items.size (fun i v => items[i]? = some v) (fun i h => h.IsTupleIter it l i ∧ h.IsTuple l items) where
  live := fun _ _ st => let ⟨o, ho, _⟩ := st.1; ⟨o, ho⟩
  frame := fun _ _ _ st hk => ⟨st.1.at fun o e => hk it (by simp) o e, st.2.at fun o e => hk l (by simp) o e⟩
  item := fun i s Q E hi st hQ => by
    refine nextOf_tuple_item st.1 st.2 (x := items[i]) (by simp [hi]) fun h' hit' hs' => ?_
    exact hQ _ h' s.toks (by simp [hi]) ⟨hit', st.2.extBut hs'.extBut hne⟩ hs'
  done := fun s Q E st hE => nextOf_tuple_end hh st.1 st.2 (by simp) hE
/-- two draws, set side by side -/
structure ZA (z TI TO i1 i2 : Addr) (fp1 fp2 : List Addr) : Prop where
  TIz : TI ≠ z
  TOz : TO ≠ z
  i1z : i1 ≠ z
  i2z : i2 ≠ z
  TITO : TI ≠ TO
  TIi1 : TI ≠ i1
  TIi2 : TI ≠ i2
  TOi1 : TO ≠ i1
  TOi2 : TO ≠ i2
  i12 : i1 ≠ i2
  z1 : z ∉ fp1
  z2 : z ∉ fp2
  TO1 : TO ∉ fp1
  TO2 : TO ∉ fp2
  i21 : i2 ∉ fp1
  i1f : i1 ∉ fp2
section
variable {prog : PySem.Program} {w : World} {A : Around} {E : Value → Shared → Prop} {s : Shared} {z TI TO i1 i2 : Addr} {fp1 fp2 : List Addr} {n1 n2 : Nat} {P1 P2 : Nat → Value → Prop} {S1 S2 : Nat → Heap → Prop}
theorem zipD_item {k : Nat} {a b : Value} {Q : Value → Shared → Prop} (D : ZA z TI TO i1 i2 fp1 fp2) (D1 : Draws prog w A i1 fp1 n1 P1 S1) (D2 : Draws prog w A i2 fp2 n2 P2 S2)
    (hz : IsZip s.heap z TI TO .none) (hTI : IsPair s.heap TI (.ref i1) (.ref i2)) (hTO : IsPair s.heap TO a b) (h1 : S1 k s.heap) (h2 : S2 k s.heap) (l1 : k < n1) (l2 : k < n2)
    (hQ : ∀ h' tk x y, P1 k x → P2 k y → IsZip h' z TI TO (rawInt s.heap.objs.size) → IsPair h' TO x y → S1 (k + 1) h' → S2 (k + 1) h' → IsPair h' s.heap.objs.size x y → h'.objs.size = s.heap.objs.size + 1 →
      (∀ c o, c ≠ z → c ≠ TO → c ≠ i1 → c ≠ i2 → s.heap.get? c = some o → h'.get? c = some o) → Q (.ref s.heap.objs.size) { s with heap := h', toks := tk }) :
    wpAny (model prog w) A (Builtin.«zip.__next__» ⟨[.ref z], []⟩) (fun fin s' => ∃ v, fin = .done (.ret v) ∧ Q v s') E s := by
  obtain ⟨hp, g, d, tk₀, os⟩ := s
  show wpAny _ _ (field (.ref z) 2 >>= _) _ _ _
  refine wpAny_bind (wpAny_field hz rfl (x := .bool false) rfl ?_)
  show wpAny _ _ (field (.ref z) 3 >>= _) _ _ _
  refine wpAny_bind (wpAny_field hz rfl (x := .ref TI) rfl ?_)
  refine wpAny_bind (wpAny_seqItems hTI rfl ?_)
  show wpAny _ _ (Builtin.SmallTypes.ownedTupleIsFree (.ref z) >>= _) _ _ _
  refine wpAny_bind ?_
  unfold Builtin.SmallTypes.ownedTupleIsFree
  refine wpAny_bind (wpAny_field hz rfl (x := .none) rfl (wpAny_pure ?_))
  simp only [if_true]
  refine wpAny_bind (wpAny_rule ?_)
  refine wpAny_bind (wpAny_field hz rfl (x := .ref TO) rfl ?_)
  refine wpAny_bind (wpAny_setField_rec hz (by simp) fun h₁ hz₁ hs₁ => ?_)
  replace hz₁ : IsZip h₁ z TI TO .ellipsis := hz₁
  replace hs₁ : Heap.SameBut z hp h₁ := hs₁
  have s1₁ : S1 k h₁ := D1.frame _ _ _ h1 fun c hc o e => hs₁.extBut _ _ (fun q => D.z1 (q ▸ hc)) e
  have s2₁ : S2 k h₁ := D2.frame _ _ _ h2 fun c hc o e => hs₁.extBut _ _ (fun q => D.z2 (q ▸ hc)) e
  refine wpAny_bind ?_
  simp only [List.zipIdx_cons, List.zipIdx_nil, List.forIn_cons, List.forIn_nil]
  refine wpAny_bind (wpAny_bind (wpAny_onRaise ?_))
  show wpAny _ _ (Builtin.SmallTypes.nextOf (.ref i1) >>= _) _ _ _
  refine wpAny_bind (D1.item k _ _ _ l1 s1₁ fun x h₂ tk₂ hx s1₂ hs₂ => wpAny_pure ?_)
  replace hs₂ : Heap.SameBut i1 h₁ h₂ := hs₂
  have hTO₂ : IsPair h₂ TO a b := hs₂.extBut _ _ D.TOi1 (hs₁.extBut _ _ D.TOz hTO)
  refine wpAny_bind (wpAny_seqItems (s := ⟨h₂, g, d, tk₂, os⟩) hTO₂ rfl ?_)
  refine wpAny_bind (wpAny_updateSeq_pair (s := ⟨h₂, g, d, tk₂, os⟩) hTO₂ fun h₃ hTO₃ hs₃ => ?_)
  replace hTO₃ : IsPair h₃ TO x b := hTO₃
  replace hs₃ : Heap.SameBut TO h₂ h₃ := hs₃
  refine wpAny_bind (wpAny_letGo (wpAny_pure ?_))
  have s2₃ : S2 k h₃ := D2.frame _ _ _ s2₁ fun c hc o e => hs₃.extBut _ _ (fun q => D.TO2 (q ▸ hc)) (hs₂.extBut _ _ (fun q => D.i1f (q ▸ hc)) e)
  have s1₃ : S1 (k + 1) h₃ := D1.frame _ _ _ s1₂ fun c hc o e => hs₃.extBut _ _ (fun q => D.TO1 (q ▸ hc)) e
  refine wpAny_bind (wpAny_bind (wpAny_onRaise ?_))
  show wpAny _ _ (Builtin.SmallTypes.nextOf (.ref i2) >>= _) _ _ _
  refine wpAny_bind (D2.item k _ _ _ l2 s2₃ fun y h₄ tk₄ hy s2₄ hs₄ => wpAny_pure ?_)
  replace hs₄ : Heap.SameBut i2 h₃ h₄ := hs₄
  have hTO₄ : IsPair h₄ TO x b := hs₄.extBut _ _ D.TOi2 hTO₃
  refine wpAny_bind (wpAny_seqItems (s := ⟨h₄, g, d, tk₄, os⟩) hTO₄ rfl ?_)
  refine wpAny_bind (wpAny_updateSeq_pair (s := ⟨h₄, g, d, tk₄, os⟩) hTO₄ fun h₅ hTO₅ hs₅ => ?_)
  replace hTO₅ : IsPair h₅ TO x y := hTO₅
  replace hs₅ : Heap.SameBut TO h₄ h₅ := hs₅
  refine wpAny_bind (wpAny_letGo (wpAny_pure (wpAny_pure ?_)))
  refine wpAny_bind (wpAny_seqItems (s := ⟨h₅, g, d, tk₄, os⟩) hTO₅ rfl ?_)
  refine wpAny_bind (wpAny_newTuple ?_)
  have hsz : h₅.objs.size = hp.objs.size := by rw [hs₅.1, hs₄.1, hs₃.1, hs₂.1, hs₁.1]
  have hz₅ : IsZip h₅ z TI TO .ellipsis := hs₅.extBut _ _ D.TOz.symm (hs₄.extBut _ _ D.i2z.symm (hs₃.extBut _ _ D.TOz.symm (hs₂.extBut _ _ D.i1z.symm hz₁)))
  have hk₅ : ∀ c o, c ≠ z → c ≠ TO → c ≠ i1 → c ≠ i2 → hp.get? c = some o → h₅.get? c = some o := fun c o c1 c2 c3 c4 e =>
    hs₅.extBut _ _ c2 (hs₄.extBut _ _ c4 (hs₃.extBut _ _ c2 (hs₂.extBut _ _ c3 (hs₁.extBut _ _ c1 e))))
  have s1₅ : S1 (k + 1) h₅ := D1.frame _ _ _ s1₃ fun c hc o e => hs₅.extBut _ _ (fun q => D.TO1 (q ▸ hc)) (hs₄.extBut _ _ (fun q => D.i21 (q ▸ hc)) e)
  have s2₅ : S2 (k + 1) h₅ := D2.frame _ _ _ s2₄ fun c hc o e => hs₅.extBut _ _ (fun q => D.TO2 (q ▸ hc)) e
  have hzlt : z < h₅.objs.size := Heap.lt_size hz₅
  show wpAny _ _ (Builtin.SmallTypes.ownedTupleHandOut (.ref z) (.ref h₅.objs.size) >>= _) _ _ _
  refine wpAny_bind ?_
  unfold Builtin.SmallTypes.ownedTupleHandOut
  have hz₆ : IsZip (h₅.push { cls := .type "tuple", data := .seq #[x, y] }) z TI TO .ellipsis := Heap.get?_push_of_some _ hz₅
  refine wpAny_bind (wpAny_setField_rec (s := ⟨h₅.push { cls := .type "tuple", data := .seq #[x, y] }, g, d, tk₄, os⟩) hz₆ (by simp) fun h₇ hz₇ hs₇ => ?_)
  replace hz₇ : IsZip h₇ z TI TO (rawInt h₅.objs.size) := hz₇
  replace hs₇ : Heap.SameBut z (h₅.push { cls := .type "tuple", data := .seq #[x, y] }) h₇ := hs₇
  refine wpAny_setField_rec (s := ⟨h₇, g, d, tk₄, os⟩) hz₇ (by simp) fun h₈ hz₈ hs₈ => ?_
  replace hz₈ : IsZip h₈ z TI TO (rawInt h₅.objs.size) := hz₈
  replace hs₈ : Heap.SameBut z h₇ h₈ := hs₈
  have up : ∀ c o, c ≠ z → h₅.get? c = some o → h₈.get? c = some o := fun c o c1 e => hs₈.extBut _ _ c1 (hs₇.extBut _ _ c1 (Heap.get?_push_of_some _ e))
  have hT₈ : IsPair h₈ h₅.objs.size x y := hs₈.extBut _ _ (Nat.ne_of_gt hzlt) (hs₇.extBut _ _ (Nat.ne_of_gt hzlt) (Heap.get?_push_size _ rfl))
  have hz8 : h₈.objs.size = h₅.objs.size + 1 := by rw [hs₈.1, hs₇.1, Heap.size_push]
  rw [hsz] at hz₈ hT₈ hz8
  refine wpAny_pure ⟨_, rfl, ?_⟩
  show Q (.ref h₅.objs.size) _
  rw [hsz]
  exact hQ h₈ tk₄ x y hx hy hz₈ (up _ _ D.TOz hTO₅) (D1.frame _ _ _ s1₅ fun c hc o e => up _ o (fun q => D.z1 (q ▸ hc)) e) (D2.frame _ _ _ s2₅ fun c hc o e => up _ o (fun q => D.z2 (q ▸ hc)) e) hT₈ hz8 fun c o c1 c2 c3 c4 e => up c o c1 (hk₅ c o c1 c2 c3 c4 e)
theorem zipD_end {k : Nat} {a b : Value} {Q : Fin → Shared → Prop} (D : ZA z TI TO i1 i2 fp1 fp2) (D1 : Draws prog w A i1 fp1 n1 P1 S1) (D2 : Draws prog w A i2 fp2 n2 P2 S2) (hf1 : i1 ∈ fp1) (hf2 : i2 ∈ fp2)
    (hz : IsZip s.heap z TI TO .none) (hTI : IsPair s.heap TI (.ref i1) (.ref i2)) (hTO : IsPair s.heap TO a b) (h1 : S1 k s.heap) (h2 : S2 k s.heap) (hk : k = min n1 n2)
    (hE : ∀ h' tk e, (∀ c o, c ≠ z → c ≠ TO → c ≠ i1 → c ≠ i2 → s.heap.get? c = some o → h'.get? c = some o) → (∃ o, h'.get? e = some o ∧ o.cls = .type "StopIteration") → E (.ref e) { s with heap := h', toks := tk }) :
    wpAny (model prog w) A (Builtin.«zip.__next__» ⟨[.ref z], []⟩) Q E s := by
  obtain ⟨hp, g, d, tk₀, os⟩ := s
  show wpAny _ _ (field (.ref z) 2 >>= _) _ _ _
  refine wpAny_bind (wpAny_field hz rfl (x := .bool false) rfl ?_)
  show wpAny _ _ (field (.ref z) 3 >>= _) _ _ _
  refine wpAny_bind (wpAny_field hz rfl (x := .ref TI) rfl ?_)
  refine wpAny_bind (wpAny_seqItems hTI rfl ?_)
  show wpAny _ _ (Builtin.SmallTypes.ownedTupleIsFree (.ref z) >>= _) _ _ _
  refine wpAny_bind ?_
  unfold Builtin.SmallTypes.ownedTupleIsFree
  refine wpAny_bind (wpAny_field hz rfl (x := .none) rfl (wpAny_pure ?_))
  simp only [if_true]
  refine wpAny_bind (wpAny_rule ?_)
  refine wpAny_bind (wpAny_field hz rfl (x := .ref TO) rfl ?_)
  refine wpAny_bind (wpAny_setField_rec hz (by simp) fun h₁ hz₁ hs₁ => ?_)
  replace hz₁ : IsZip h₁ z TI TO .ellipsis := hz₁
  replace hs₁ : Heap.SameBut z hp h₁ := hs₁
  have s1₁ : S1 k h₁ := D1.frame _ _ _ h1 fun c hc o e => hs₁.extBut _ _ (fun q => D.z1 (q ▸ hc)) e
  have s2₁ : S2 k h₁ := D2.frame _ _ _ h2 fun c hc o e => hs₁.extBut _ _ (fun q => D.z2 (q ▸ hc)) e
  refine wpAny_bind ?_
  simp only [List.zipIdx_cons, List.zipIdx_nil, List.forIn_cons, List.forIn_nil]
  refine wpAny_bind (wpAny_bind (wpAny_onRaise ?_))
  show wpAny _ _ (Builtin.SmallTypes.nextOf (.ref i1) >>= _) _ _ _
  rcases Nat.lt_or_ge k n1 with l1 | l1
  · have hk2 : k = n2 := by omega
    refine wpAny_bind (D1.item k _ _ _ l1 s1₁ fun x h₂ tk₂ hx s1₂ hs₂ => wpAny_pure ?_)
    replace hs₂ : Heap.SameBut i1 h₁ h₂ := hs₂
    have hTO₂ : IsPair h₂ TO a b := hs₂.extBut _ _ D.TOi1 (hs₁.extBut _ _ D.TOz hTO)
    refine wpAny_bind (wpAny_seqItems (s := ⟨h₂, g, d, tk₂, os⟩) hTO₂ rfl ?_)
    refine wpAny_bind (wpAny_updateSeq_pair (s := ⟨h₂, g, d, tk₂, os⟩) hTO₂ fun h₃ hTO₃ hs₃ => ?_)
    replace hTO₃ : IsPair h₃ TO x b := hTO₃
    replace hs₃ : Heap.SameBut TO h₂ h₃ := hs₃
    refine wpAny_bind (wpAny_letGo (wpAny_pure ?_))
    have s2₃ : S2 k h₃ := D2.frame _ _ _ s2₁ fun c hc o e => hs₃.extBut _ _ (fun q => D.TO2 (q ▸ hc)) (hs₂.extBut _ _ (fun q => D.i1f (q ▸ hc)) e)
    refine wpAny_bind (wpAny_bind (wpAny_onRaise ?_))
    show wpAny _ _ (Builtin.SmallTypes.nextOf (.ref i2) >>= _) _ _ _
    rw [hk2] at s2₃
    refine wpAny_bind (D2.done _ _ _ s2₃ fun h₄ e hs₄ he => ?_)
    replace hs₄ : Heap.ExtBut i2 h₃ h₄ := hs₄
    obtain ⟨oe, hoe, hce⟩ := he
    have hz₄ : IsZip h₄ z TI TO .ellipsis := hs₄ _ _ D.i2z.symm (hs₃.extBut _ _ D.TOz.symm (hs₂.extBut _ _ D.i1z.symm hz₁))
    have hez : e ≠ z := fun x => by subst x; have hoe' : h₄.get? _ = some oe := hoe; rw [hz₄] at hoe'; cases hoe'; simp at hce
    refine wpAny_setField_rec (s := ⟨h₄, g, d, tk₂, os⟩) hz₄ (by simp) fun h₅ _ hs₅ => hE h₅ _ e (fun c o c1 c2 c3 c4 x => hs₅.extBut _ _ c1 (hs₄ _ _ c4 (hs₃.extBut _ _ c2 (hs₂.extBut _ _ c3 (hs₁.extBut _ _ c1 x))))) ⟨oe, hs₅.extBut _ _ hez hoe, hce⟩
  · have hk1 : k = n1 := by omega
    rw [hk1] at s1₁
    refine wpAny_bind (D1.done _ _ _ s1₁ fun h₂ e hs₂ he => ?_)
    replace hs₂ : Heap.ExtBut i1 h₁ h₂ := hs₂
    obtain ⟨oe, hoe, hce⟩ := he
    have hz₂ : IsZip h₂ z TI TO .ellipsis := hs₂ _ _ D.i1z.symm hz₁
    have hez : e ≠ z := fun x => by subst x; have hoe' : h₂.get? _ = some oe := hoe; rw [hz₂] at hoe'; cases hoe'; simp at hce
    refine wpAny_setField_rec (s := ⟨h₂, g, d, tk₀, os⟩) hz₂ (by simp) fun h₃ _ hs₃ => hE h₃ _ e (fun c o c1 _ c3 _ x => hs₃.extBut _ _ c1 (hs₂ _ _ c3 (hs₁.extBut _ _ c1 x))) ⟨oe, hs₃.extBut _ _ hez hoe, hce⟩
end
/-- the walk of a zip over two draws -/
theorem zipW {prog : PySem.Program} {w : World} {A : Around} {z TI TO i1 i2 : Addr} {fp1 fp2 : List Addr} {n1 n2 : Nat} {P1 P2 : Nat → Value → Prop} {S1 S2 : Nat → Heap → Prop}
    (D : ZA z TI TO i1 i2 fp1 fp2) (D1 : Draws prog w A.in1 i1 fp1 n1 P1 S1) (D2 : Draws prog w A.in1 i2 fp2 n2 P2 S2) (hf1 : i1 ∈ fp1) (hf2 : i2 ∈ fp2) :
    WalksT prog w A z (z :: TI :: TO :: (fp1 ++ fp2)) [z, TO, i1, i2] (min n1 n2) (fun i vals => ∃ x y, P1 i x ∧ P2 i y ∧ vals = #[x, y])
      (fun i h => IsZip h z TI TO .none ∧ IsPair h TI (.ref i1) (.ref i2) ∧ (∃ a b, IsPair h TO a b) ∧ S1 i h ∧ S2 i h)
      (fun i T h => IsZip h z TI TO (rawInt T) ∧ IsPair h TI (.ref i1) (.ref i2) ∧ (∃ a b, IsPair h TO a b) ∧ S1 (i + 1) h ∧ S2 (i + 1) h ∧ T ≠ z ∧ T ≠ TO ∧ T ≠ i1 ∧ T ≠ i2) where
  sub := fun c hc => by
    simp only [List.mem_cons, List.mem_nil_iff, or_false] at hc
    simp only [List.mem_cons, List.mem_append]
    rcases hc with rfl | rfl | rfl | rfl
    · exact .inl rfl
    · exact .inr (.inr (.inl rfl))
    · exact .inr (.inr (.inr (.inl hf1)))
    · exact .inr (.inr (.inr (.inr hf2)))
  frame := fun i h h' hst hk => by
    obtain ⟨hz, hTI, ⟨a, b, hTO⟩, h1, h2⟩ := hst
    exact ⟨hk z (by simp) _ hz, hk TI (by simp) _ hTI, ⟨a, b, hk TO (by simp) _ hTO⟩, D1.frame _ _ _ h1 fun c hc o e => hk c (by simp [hc]) o e, D2.frame _ _ _ h2 fun c hc o e => hk c (by simp [hc]) o e⟩
  item := fun i s Q E hi hst hQ => by
    obtain ⟨hz, hTI, ⟨a, b, hTO⟩, h1, h2⟩ := hst
    have hT : s.TypeIs (.ref z) "zip" := ⟨_, hz, rfl⟩
    have lt : ∀ {c o}, s.heap.get? c = some o → s.heap.objs.size ≠ c := fun e => Nat.ne_of_gt (Heap.lt_size e)
    have l1 := D1.live _ _ h1
    have l2 := D2.live _ _ h2
    unfold pyNext
    refine wpAny_bind (wpAny_attempt (wpAny_callSpecial?_slot (name := Str.ofString "__next__") hT F.slot_zip_next
      (wpAny_call_entry F.slot_zip_next hT F.entry_zip_next (zipD_item D D1 D2 hz hTI hTO h1 h2 (Nat.lt_of_lt_of_le hi (Nat.min_le_left ..)) (Nat.lt_of_lt_of_le hi (Nat.min_le_right ..))
        fun h' tk x y hx hy a1 a2 a3 a4 a5 a6 hk => wpAny_pure (hQ s.heap.objs.size #[x, y] h' tk ⟨_, _, hx, hy, rfl⟩ (Nat.le_refl _) ⟨_, a5, rfl, _, rfl⟩
          ⟨a1, hk _ _ D.TIz D.TITO D.TIi1 D.TIi2 hTI, ⟨_, _, a2⟩, a3, a4, lt hz, lt hTO, (by obtain ⟨_, e⟩ := l1; exact lt e), (by obtain ⟨_, e⟩ := l2; exact lt e)⟩
          fun c o hc e => hk c o (fun x => hc (by simp [x])) (fun x => hc (by simp [x])) (fun x => hc (by simp [x])) (fun x => hc (by simp [x])) e)) (F.args_zip_next_1 _))))
  go := fun elts k pos i T s Q E hm hQ => by
    obtain ⟨hz, hTI, ⟨a, b, hTO⟩, h1, h2, _⟩ := hm
    refine wpAny_letOwnedTupleGo_zip hz fun h' hz' hs' => hQ h' ⟨hz', hs'.extBut _ _ D.TIz hTI, ⟨a, b, hs'.extBut _ _ D.TOz hTO⟩, D1.frame _ _ _ h1 fun c hc o e => hs'.extBut _ _ (fun q => D.z1 (q ▸ hc)) e, D2.frame _ _ _ h2 fun c hc o e => hs'.extBut _ _ (fun q => D.z2 (q ▸ hc)) e⟩
      fun c o hc e => hs'.extBut _ _ (fun x => hc (by simp [x])) e
  apart := fun i T h hm hT => by
    obtain ⟨_, _, _, _, _, t1, t2, t3, t4⟩ := hm
    simp at hT
    rcases hT with rfl | rfl | rfl | rfl
    · exact t1 rfl
    · exact t2 rfl
    · exact t3 rfl
    · exact t4 rfl
  done := fun s Q E hst hQ => by
    obtain ⟨hz, hTI, ⟨a, b, hTO⟩, h1, h2⟩ := hst
    have hT : s.TypeIs (.ref z) "zip" := ⟨_, hz, rfl⟩
    unfold pyNext
    refine wpAny_bind (wpAny_attempt (wpAny_callSpecial?_slot (name := Str.ofString "__next__") hT F.slot_zip_next
      (wpAny_call_entry F.slot_zip_next hT F.entry_zip_next (zipD_end D D1 D2 hf1 hf2 hz hTI hTO h1 h2 rfl fun h' tk e hk he => ?_) (F.args_zip_next_1 _))))
    obtain ⟨o, ho, hc⟩ := he
    refine wpAny_bind (wpAny_isInstance (T := "StopIteration") (b := true) ⟨o, ho, hc⟩ isSubtype_stop ?_)
    exact wpAny_pure (hQ _ tk fun c o hc e => hk c o (fun x => hc (by simp [x])) (fun x => hc (by simp [x])) (fun x => hc (by simp [x])) (fun x => hc (by simp [x])) e)
  self := fun i s Q E hst hQ => wpAny_pyIter_zip hst.1 hQ
/-- an iterator is one new object -/
noncomputable def PI (v : Value) (o : Obj) (h : Heap) : Prop := ∀ (prog : PySem.Program) (w : World) (A : Around) (s : Shared) (Q : Value → Shared → Prop) (E : Value → Shared → Prop), s.heap = h → Q (.ref s.heap.objs.size) { s with heap := s.heap.push o } → wpAny (model prog w) A (pyIter v) Q E s
noncomputable abbrev zq1 (h : Heap) (o1 : Obj) : Heap := h.push o1
noncomputable abbrev zq2 (h : Heap) (o1 o2 : Obj) : Heap := (zq1 h o1).push o2
noncomputable abbrev zq3 (h : Heap) (o1 o2 : Obj) : Heap := (zq2 h o1 o2).push { cls := .type "tuple", data := .seq #[.ref h.objs.size, .ref (zq1 h o1).objs.size] }
noncomputable abbrev zq4 (h : Heap) (o1 o2 : Obj) : Heap := (zq3 h o1 o2).push { cls := .type "tuple", data := .seq #[.none, .none] }
noncomputable abbrev zq5 (h : Heap) (o1 o2 : Obj) : Heap := (zq4 h o1 o2).push { cls := .type "zip", data := .fields #[.none, .bool false, .bool false, .ref (zq2 h o1 o2).objs.size, .ref (zq3 h o1 o2).objs.size] }
theorem meets_zipQ (v1 v2 : Value) (o1 o2 : Obj) :
    Meets (Builtin.«zip.__new__» ⟨[.type "zip", v1, v2], []⟩) (fun _ R s => PI v1 o1 s.heap ∧ PI v2 o2 (s.heap.push o1) ∧
      R (.ok (.ret (.ref (zq4 s.heap o1 o2).objs.size))) { s with heap := zq5 s.heap o1 o2 }) :=
  .of_wp fun prog w A R s h => by
    obtain ⟨hp, g, d, tk, os⟩ := s; obtain ⟨hl1, hl2, h⟩ := h
    have hsub := sub_zip
    have k1 : ∀ {A' : Around} {Q : Value → Shared → Prop} {E : Value → Shared → Prop}, Q (.ref hp.objs.size) ⟨hp.push o1, g, d, tk, os⟩ → wpAny (model prog w) A' (pyIter v1) Q E ⟨hp, g, d, tk, os⟩ := fun {A' Q E} q => hl1 prog w A' ⟨hp, g, d, tk, os⟩ Q E rfl q
    have k2 : ∀ {A' : Around} {Q : Value → Shared → Prop} {E : Value → Shared → Prop}, Q (.ref (hp.push o1).objs.size) ⟨(hp.push o1).push o2, g, d, tk, os⟩ → wpAny (model prog w) A' (pyIter v2) Q E ⟨hp.push o1, g, d, tk, os⟩ := fun {A' Q E} q => hl2 prog w A' ⟨hp.push o1, g, d, tk, os⟩ Q E rfl q
    wp_walk using k1, k2
    exact ⟨_, rfl, h⟩
section
variable {prog : PySem.Program} {w : World} {A : Around} {E : Value → Shared → Prop} {s : Shared}
theorem call_zipQ {v1 v2 : Value} {o1 o2 : Obj} {Q : Value → Shared → Prop} (hl1 : PI v1 o1 s.heap) (hl2 : PI v2 o2 (s.heap.push o1)) (f1 : o1.isFreed = false) (f2 : o2.isFreed = false)
    (h : ∀ h', IsZip h' (s.heap.objs.size + 4) (s.heap.objs.size + 2) (s.heap.objs.size + 3) .none → IsPair h' (s.heap.objs.size + 2) (.ref s.heap.objs.size) (.ref (s.heap.objs.size + 1)) →
      IsPair h' (s.heap.objs.size + 3) .none .none → h'.get? s.heap.objs.size = some o1 → h'.get? (s.heap.objs.size + 1) = some o2 → h'.objs.size = s.heap.objs.size + 5 →
      (∀ c o, s.heap.get? c = some o → h'.get? c = some o) → Q (.ref (s.heap.objs.size + 4)) { s with heap := h' }) :
    wpAny (model prog w) A (call (.type "zip") [v1, v2]) Q E s := by
  refine callType_new F.called_zip (by decide) (F.typeCall_zip_2 _ _) (F.newCall_zip_2 _ _) (fun obj => F.args_object_init_3 obj _ _) F.entry_zip_new
    (meets_zipQ v1 v2 o1 o2) ⟨hl1, hl2, ?_⟩
  have z1 : (zq1 s.heap o1).objs.size = s.heap.objs.size + 1 := Heap.size_push ..
  have z2 : (zq2 s.heap o1 o2).objs.size = s.heap.objs.size + 2 := by rw [Heap.size_push, z1]
  have z3 : (zq3 s.heap o1 o2).objs.size = s.heap.objs.size + 3 := by rw [Heap.size_push, z2]
  have z4 : (zq4 s.heap o1 o2).objs.size = s.heap.objs.size + 4 := by rw [Heap.size_push, z3]
  have z5 : (zq5 s.heap o1 o2).objs.size = s.heap.objs.size + 5 := by rw [Heap.size_push, z4]
  have g5 : (zq5 s.heap o1 o2).get? (zq4 s.heap o1 o2).objs.size = some _ := Heap.get?_push_size _ rfl
  have g4 : (zq5 s.heap o1 o2).get? (zq3 s.heap o1 o2).objs.size = some _ := Heap.get?_push_of_some _ (Heap.get?_push_size _ rfl)
  have g3 : (zq5 s.heap o1 o2).get? (zq2 s.heap o1 o2).objs.size = some _ := Heap.get?_push_of_some _ (Heap.get?_push_of_some _ (Heap.get?_push_size _ rfl))
  have g2 : (zq5 s.heap o1 o2).get? (zq1 s.heap o1).objs.size = some _ := Heap.get?_push_of_some _ (Heap.get?_push_of_some _ (Heap.get?_push_of_some _ (Heap.get?_push_size _ f2)))
  have g1 : (zq5 s.heap o1 o2).get? s.heap.objs.size = some _ := Heap.get?_push_of_some _ (Heap.get?_push_of_some _ (Heap.get?_push_of_some _ (Heap.get?_push_of_some _ (Heap.get?_push_size _ f1))))
  show _ ∧ _
  rw [z2, z3, z4] at g5
  rw [z1, z2] at g3
  rw [z3] at g4
  rw [z1] at g2
  rw [z4]
  exact ⟨⟨_, g5, rfl⟩, h _ g5 g3 g4 g1 g2 z5 fun c o x =>
    Heap.get?_push_of_some _ (Heap.get?_push_of_some _ (Heap.get?_push_of_some _ (Heap.get?_push_of_some _ (Heap.get?_push_of_some _ x))))⟩
end
noncomputable abbrev itL (a : Addr) : Obj := { cls := .type "list_iterator", data := .fields #[.ref a, .int 0 0] }
noncomputable abbrev itT (a : Addr) : Obj := { cls := .type "tuple_iterator", data := .fields #[.ref a, .int 0 0] }
theorem PI.list {a : Addr} {items : Array Value} {h : Heap} (hl : h.IsList a items) : PI (.ref a) (itL a) h := fun _ _ _ _ _ _ e q => by subst e; exact wpAny_pyIter_list hl q
theorem PI.tuple {a : Addr} {items : Array Value} {h : Heap} (hl : h.IsTuple a items) : PI (.ref a) (itT a) h := fun _ _ _ _ _ _ e q => by subst e; exact wpAny_pyIter_tuple hl q
end Mine
end
section
open PySem PySem.W PyProof.Rows PySem.Calls PySem.Spec
namespace Mine
/-- tokens are never given back: a run's end has no fewer than its begin -/
theorem runs_grow {M : Model} {Γ : PySem.Ctx} {p : Pos} {t : Sem Fin} {fs : List Frame} {s s' : Shared} {e : End} (h : Runs M Γ p t fs s e s') : s.toks ≤ s'.toks := by
  induction h with
  | done | raise | yield => exact Nat.le_refl _
  | fresh _ ih => exact Nat.le_trans (Nat.le_succ _) ih
  | call _ _ ih1 ih2 => exact Nat.le_trans ih1 ih2
  | resumeFresh _ _ _ _ ih1 ih2 => exact Nat.le_trans ih1 ih2
  | resumeSuspended _ _ _ _ ih1 ih2 => exact Nat.le_trans ih1 ih2
  | segRet _ _ ih1 ih2 => exact Nat.le_trans ih1 ih2
  | segGen _ _ ih1 ih2 => exact Nat.le_trans ih1 ih2
  | segSuspGen _ _ _ _ ih1 ih2 => exact Nat.le_trans ih1 ih2
  | _ => assumption
theorem wakes_grow {M : Model} {Γ : PySem.Ctx} {p : Pos} {g : Nat} {r : Resume} {s s' : Shared} {res : GenResult} (h : Wakes M Γ p g r s res s') : s.toks ≤ s'.toks := by
  unfold Wakes at h
  split at h
  · exact h.elim
  · split at h
    · obtain ⟨e, s₁, h1, _, _, rfl⟩ := h; have z := runs_grow h1; exact z
    · rw [h.2]; exact Nat.le_refl _
    · rw [h.2]; exact Nat.le_refl _
  · obtain ⟨e, s₁, h1, _, _, rfl⟩ := h; have z := runs_grow h1; exact z
  · rw [h.2]; exact Nat.le_refl _
  · rw [h.2]; exact Nat.le_refl _
theorem wp_grow {α : Type} {M : Model} {Γ : PySem.Ctx} {Q : α → Pos → Shared → Prop} {E : Value → Pos → Shared → Prop} (t : Sem α) (n : Nat) (p : Pos) (s : Shared) (hn : n ≤ s.toks)
    (h : Sem.wp M Γ t (fun a p s' => n ≤ s'.toks → Q a p s') E p s) : Sem.wp M Γ t Q E p s := by
  revert h
  induction t generalizing p s with
  | pure x => exact fun h => h hn
  | raise v => exact id
  | unsupported | finish | yield | fork | await | register => exact id
  | rule _ k ih | «at» _ k ih | alloc _ k ih | loadIfAlive _ k ih | point _ k ih | ask k ih | os _ _ k ih | handled _ k ih | newGen _ k ih | stack k ih | thread k ih => exact ih _ _ _ hn
  | fresh k ih => exact ih _ _ _ (Nat.le_succ_of_le hn)
  | load a _ k ih | genState a k ih => exact fun ⟨o, ho, h⟩ => ⟨o, ho, ih _ _ _ hn h⟩
  | update a _ f k ih | choose _ _ k ih => exact fun ⟨ha, h⟩ => ⟨ha, ih _ _ _ hn h⟩
  | call c h g l k ih => exact fun ⟨r, s', hr, h⟩ => ⟨r, s', hr, ih r p s' (Nat.le_trans hn (runs_grow hr)) h⟩
  | resume g r l k ih => exact fun ⟨res, s', hw, h⟩ => ⟨res, s', hw, ih _ _ _ (Nat.le_trans hn (wakes_grow hw)) h⟩
theorem wpAny_grow {α : Type} {M : Model} {A : Around} {t : Sem α} {Q : α → Shared → Prop} {E : Value → Shared → Prop} {s : Shared} (h : wpAny M A t (fun v s' => s.toks ≤ s'.toks → Q v s') E s) : wpAny M A t Q E s :=
  fun Γ p hΓ => wp_grow t s.toks p s (Nat.le_refl _) (h Γ p hΓ)
/-- no reader has booked a token -/
theorem not_booked {K : Frag} {M : Model} {A : Around} {Q : Bool → Shared → Prop} {E : Value → Shared → Prop} {s : Shared} {t : Tok} (X : K.In s.heap) (e : nsIn K cStatics sharingNotToldKey = some none) (h : Q false s) : wpAny M A (sharingNotTold t) Q E s := by
  unfold sharingNotTold
  exact wpAny_bind (looks_nsIn X e A _ E s (fun _ _ e => e) (wpAny_pure h))
theorem same_float {K : Frag} {M : Model} {A : Around} {Q : Bool → Shared → Prop} {E : Value → Shared → Prop} {s : Shared} {x y : UInt64} {t u : Tok} (X : K.In s.heap) (e : nsIn K cStatics sharingNotToldKey = some none) (ht : t ≠ 0) (hu : u ≠ 0) (htu : t = u → x = y)
    (h : ∀ b, (b = true → x = y) → Q b s) : wpAny M A (isSame (.float x t) (.float y u)) Q E s := by
  show wpAny M A (isSame.created (x == y && !Float64.isNaN x) t u) Q E s
  unfold isSame.created
  refine wpAny_ite_split (fun c => ?_) (fun _ => wpAny_ite_split (fun c => ?_) (fun _ => wpAny_ite_split (fun c => ?_) (fun c => ?_)))
  · rcases (Bool.or_eq_true _ _).mp c with c | c
    · exact absurd (eq_of_beq c) ht
    · exact absurd (eq_of_beq c) hu
  · exact wpAny_pure (h _ fun _ => htu (eq_of_beq c))
  · exact wpAny_pure (h _ fun e => absurd e Bool.false_ne_true)
  · have hxy : x = y := by
      rw [Bool.not_eq_true, Bool.not_eq_false', Bool.and_eq_true] at c
      exact eq_of_beq c.1
    refine wpAny_bind (not_booked X e (wpAny_ite_split (fun c => absurd c Bool.false_ne_true) fun _ => ?_))
    refine wpAny_bind (not_booked X e (wpAny_ite_split (fun c => absurd c Bool.false_ne_true) fun _ => ?_))
    exact wpAny_bind (wpAny_rule (wpAny_bind (wpAny_askSetting (wpAny_pure (h _ fun _ => hxy)))))
end Mine
end
section
open PySem PySem.W PyProof.Rows PySem.Calls PySem.Spec PyProof.Rows.LCg
open PyProof.V
set_option maxRecDepth 100000
namespace Mine
noncomputable abbrev VF := Tok → Value
noncomputable def MEnd (h₀ : Heap) (L : Addr) (m : PySem.Str → Option Value) (s₁ : Shared) (C : Addr) (oC : Obj) (D : Addr) (oD : Obj) (its keep : Led) (rest : Nat → Value → Led → Prop) (y : Value) (s₂ : Shared) : Prop :=
  ∀ G : Prop, (∀ h' tk news', s₂ = { s₁ with heap := h', toks := tk } → Fr h₀ L h' m → News h₀ L h' ((C, oC) :: (D, oD) :: (news' ++ its)) → (∀ p ∈ news', p.1 ≠ C ∧ p.1 ≠ D) → (∀ p ∈ news', ∀ q ∈ its, p.1 ≠ q.1) → (∀ p ∈ keep, p ∈ news') → rest tk y news' → G) → G
theorem MEnd.intro {h₀ : Heap} {L C D : Addr} {m : PySem.Str → Option Value} {s₁ : Shared} {oC oD : Obj} {its keep : Led} {rest : Nat → Value → Led → Prop} {y : Value} {h' : Heap} {tk : Nat} {all : Led}
    (F : Fr h₀ L h' m) (N : News h₀ L h' all) (news' : Led) (sub : ∀ p ∈ (C, oC) :: (D, oD) :: (news' ++ its), p ∈ all) (off : ∀ p ∈ news', p.1 ≠ C ∧ p.1 ≠ D) (offI : ∀ p ∈ news', ∀ q ∈ its, p.1 ≠ q.1) (hk : ∀ p ∈ keep, p ∈ news') (r : rest tk y news') :
    MEnd h₀ L m s₁ C oC D oD its keep rest y { s₁ with heap := h', toks := tk } := fun _ k => k h' tk news' rfl F (fun p hp => N p (sub p hp)) off offI hk r
noncomputable abbrev tl : Option PySem.Expr → List PySem.Expr
  | none => []
  | some c => [c]
noncomputable def MBody (prog : PySem.Program) (w : World) (A : Around) (ct : Option PySem.Expr) (elt : PySem.Expr) (cenv : Env) (Endy : Value → Shared → Prop) (Endn : Value → Shared → Prop) (E : Value → Shared → Prop) (s : Shared) : Prop :=
  match ct with
  | none => wpAny (model prog w) A (eval elt cenv) Endy E s
  | some c => wpAny (model prog w) A (isTrue c cenv (eval c cenv)) (fun ok s' => if ok = true then wpAny (model prog w) A (eval elt cenv) Endy E s' else Endn .none s') E s
noncomputable def MRest (prog : PySem.Program) (w : World) (A : Around) (h₀ : Heap) (L : Addr) (m : PySem.Str → Option Value) (env : Env) (ct : Option PySem.Expr) (elt : PySem.Expr) (a b : PySem.Str) (scope : Scope) (cl : List (PySem.Str × Addr)) (s : Shared) (its0 : Led → Prop) (keep : Led)
    (Fin : Nat → List Value → Led → Prop) : List (VF × VF) → Nat → List Value → Led → Prop
  | [], n, ys, news => Fin n ys news
  | p :: r, n, ys, news => ∀ (t u : Tok) its C oC D m₂ h tk (E' : Value → Shared → Prop), n ≤ tk → its0 its → NsObj oC m₂ → m₂ a = some (p.1 t) → m₂ b = some (p.2 u) → Fr h₀ L h m → News h₀ L h ((C, oC) :: (D, lst ys) :: (news ++ its)) →
      (∀ q ∈ news, q.1 ≠ C ∧ q.1 ≠ D) → (∀ q ∈ news, ∀ z ∈ its, q.1 ≠ z.1) → (∀ q ∈ its, q.1 ≠ C ∧ q.1 ≠ D) → (@Ne Nat C D) →
      MBody prog w A ct elt (compEnvC scope cl C env) (MEnd h₀ L m { s with heap := h, toks := tk } C oC D (lst ys) its keep (fun k y news' => MRest prog w A h₀ L m env ct elt a b scope cl s its0 keep Fin r k (ys ++ [y]) news'))
        (MEnd h₀ L m { s with heap := h, toks := tk } C oC D (lst ys) its keep (fun k _ news' => MRest prog w A h₀ L m env ct elt a b scope cl s its0 keep Fin r k ys news')) E' { s with heap := h, toks := tk }
noncomputable def McI (h₀ : Heap) (L : Addr) (m : PySem.Str → Option Value) (s₂ : Shared) (C D : Addr) (n : Nat) (St : Nat → Heap → Prop) (ws : List (Addr × String)) (keep : Led) (xs : List (VF × VF)) (rest : List (VF × VF) → Nat → List Value → Led → Prop) (k : Nat) (s' : Shared) : Prop :=
  ∀ G : Prop, (∀ h' tk nn i ys m' news', s' = { s₂ with heap := h', toks := tk } → nn ≤ tk → i ≤ n → k = n + 1 - i → ys.length ≤ i → St i h' → Fr h₀ L h' m → h'.Ns C m' →
    News h₀ L h' ((D, lst ys) :: news') → (∀ p ∈ news', p.1 ≠ C ∧ p.1 ≠ D) → (∀ p ∈ news', p.1 ∉ ws.map (·.1)) → (∀ p ∈ keep, p ∈ news') → rest (xs.drop i) nn ys news' → G) → G
section
variable {prog : PySem.Program} {w : World} {A : Around} {E : Value → Shared → Prop} {s : Shared} {h₀ : Heap} {L : Addr} {m : PySem.Str → Option Value} {env : Env}
theorem MBody_mono {ct : Option PySem.Expr} {elt : PySem.Expr} {cenv : Env} {P P' : Value → Shared → Prop} {R R' : Value → Shared → Prop} {E' : Value → Shared → Prop} {s : Shared} (h : MBody prog w A ct elt cenv P R E' s) (hP : ∀ y s, P y s → P' y s) (hR : ∀ s, R .none s → R' .none s) : MBody prog w A ct elt cenv P' R' E' s := by
  cases ct with
  | none => exact wpAny_mono h hP fun _ _ e => e
  | some c =>
    refine wpAny_mono h (fun ok s' q => ?_) fun _ _ e => e
    cases ok with
    | true => simp only [if_true] at q ⊢; exact wpAny_mono q hP fun _ _ e => e
    | false => simp only [Bool.false_eq_true, if_false] at q ⊢; exact hR _ q
theorem mc_loop {elt target iter : PySem.Expr} {ct : Option PySem.Expr} {scope : Scope} {pos : Pos} {it acc : Value} {env : Env} {R : Result → Shared → Prop} (I : Nat → Shared → Prop)
    (turn : ∀ n s, I n s → wpAny (model prog w) A (pyNext it) (fun r s₁ => match r with
      | none => R (.ok .next) s₁
      | some v => wpAny (model prog w) A (letOwnedTupleGo target it v) (fun _ s₀ => wpAny (model prog w) A (assign target env v) (fun _ s₂ =>
          MBody prog w A ct elt env (fun x s₄ =>
            wpAny (model prog w) A (call (.builtin "list.append") [acc, x]) (fun _ s₅ => ∃ m, m < n ∧ I m s₅) (notedBy (model prog w) A env fun e s' => R (.error e) s') s₄) (fun _ s₅ => ∃ m, m < n ∧ I m s₅) (notedBy (model prog w) A env fun e s' => R (.error e) s') s₂)
          (notedBy (model prog w) A env fun e s' => R (.error e) s') s₀) (notedBy (model prog w) A env fun e s' => R (.error e) s') s₁) (notedBy (model prog w) A env fun e s' => R (.error e) s') s)
    (n : Nat) (h : I n s) : codeAny (model prog w) A (.compLoop (.ListComp elt [⟨target, iter, tl ct, 0⟩] scope pos) 0 it acc env) R s := by
  cases ct with
  | none => exact kcp_loop I turn n h
  | some c => exact kct_loop I turn n h
theorem mc_block {elt iter : PySem.Expr} {ct : Option PySem.Expr} {a b : PySem.Str} {pa pb tp : Pos} {kk : Nat} {scope : Scope} {cl : List (PySem.Str × Addr)} {pos : Pos} {s₂ : Shared} {I : Addr} {fp wr : List Addr} {n : Nat} {P Md : Nat → Value → Heap → Prop} {St : Nat → Heap → Prop} {ws : List (Addr × String)} {keep : Led} {xs : List (VF × VF)} {news : Led}
    {Fin : Nat → List Value → Led → Prop} {RR : Value → Addr → Result → Shared → Prop}
    (hh : A.handled = none) (W : KTurns prog w A (.Tuple [.Name a pa, .Name b pb] kk tp) I fp wr n P Md St) (hn : xs.length = n) (hsz : n ≤ sizeLine)
    (hxs : ∀ i v h, P i v h → ∃ p T t u, xs[i]? = some p ∧ v = .ref T ∧ h.IsTuple T #[p.1 t, p.2 u])
    (hself : ∀ h (s' : Shared) (Q : Value → Shared → Prop) (E : Value → Shared → Prop), s'.heap = h → St 0 h → Q (.ref I) s' → wpAny (model prog w) A (pyIter (.ref I)) Q E s')
    (hobj : ∀ i h, St i h → ∃ its, Objs ws its ∧ ∀ p ∈ its, h.get? p.1 = some p.2)
    (hws : ∀ b ∈ ws.map (·.1), b ∈ fp ∧ h₀.get? b = none) (hwr : ∀ b ∈ wr, b ∈ ws.map (·.1))
    (hfp : ∀ b ∈ fp, b ∈ ws.map (·.1) ∨ ∃ o, (b, o) ∈ keep) (hL : L ∉ fp) (hnw : ∀ p ∈ news, p.1 ∉ ws.map (·.1)) (hst : St 0 s₂.heap) (hfl : ∀ b ∈ fp, b < s₂.heap.objs.size)
    (F : Fr h₀ L s₂.heap m) (N : News h₀ L s₂.heap news) (hk : ∀ p ∈ keep, p ∈ news)
    (hcell : ∀ y ∈ scope.names, y.2 ≠ .cell) (hkind : scope.kind = .function) (hxa : scope.names.lookup a = some .local) (hxb : scope.names.lookup b = some .local) (hab : ¬ a = b)
    (R : MRest prog w A h₀ L m env ct elt a b scope cl s₂ (Objs ws) keep Fin xs s₂.toks [] news)
    (hRR : ∀ nn D C h tk m' ys news', nn ≤ tk → Fr h₀ L h m → News h₀ L h ((D, lst ys) :: news') → (∀ p ∈ news', p.1 ≠ D) → (∀ p ∈ news, p.1 < D) → h.Ns C m' → h₀.get? C = none → h₀.get? D = none → C ≠ L → D ≠ L → C ≠ D → (∀ p ∈ news', p.1 ≠ C) → Fin nn ys news' → RR (.ref D) C (.ok .next) { s₂ with heap := h, toks := tk }) :
    wpAny (model prog w) A (newList []) (fun acc s₃ => wpAny (model prog w) A (newFunctionEnv scope env.globals cl [] env.qual none .none (some env)) (fun cenv s₄ =>
      codeAny (model prog w) A (.compStart (.ListComp elt [⟨.Tuple [.Name a pa, .Name b pb] kk tp, iter, tl ct, 0⟩] scope pos) 0 (.ref I) acc { cenv with scope := relabel scope env }) (RR acc cenv.locals) s₄) E s₃) E s₂ := by
  refine wpAny_newObj_type (wpAny_newFunctionEnv hcell (by intro y hy; simp at hy) (fun h₁ hns₁ hsb₁ => ?_) hkind)
  dsimp only at hns₁ hsb₁ ⊢
  generalize hH2 : s₂.heap.push { cls := .type "list", dict := none, data := .seq ([] : List Value).toArray } = H2 at hns₁ hsb₁ ⊢
  have hC : H2.objs.size = s₂.heap.objs.size + 1 := by rw [← hH2, Heap.size_push]
  have hDC : s₂.heap.objs.size ≠ H2.objs.size := by rw [hC]; exact Nat.ne_of_lt (Nat.lt_succ_self _)
  have below : ∀ b, b < s₂.heap.objs.size → b ≠ H2.objs.size ∧ b ≠ s₂.heap.objs.size := fun b hb => ⟨by rw [hC]; exact Nat.ne_of_lt (Nat.lt_succ_of_lt hb), Nat.ne_of_lt hb⟩
  have old : ∀ b o, s₂.heap.get? b = some o → h₁.get? b = some o := fun b o e => hsb₁.extBut b o (below b (Heap.lt_size e)).1 (Heap.get?_push_of_some _ (hH2 ▸ Heap.get?_push_of_some _ e))
  have hacc : h₁.get? s₂.heap.objs.size = some (lst []) := hsb₁.extBut _ _ hDC (Heap.get?_push_of_some _ (hH2 ▸ Heap.get?_push_size _ rfl))
  have hst₁ : St 0 h₁ := W.frame _ _ _ hst fun b _ o e => old b o e
  have fresh₀ : ∀ a, s₂.heap.objs.size ≤ a → h₀.get? a = none := fun a ha => by
    cases e : h₀.get? a with
    | none => rfl
    | some o' => exact absurd (Heap.lt_size (F.keep a o' e)) (Nat.not_lt.mpr ha)
  have hD₀ : h₀.get? s₂.heap.objs.size = none := fresh₀ _ (Nat.le_refl _)
  have hC₀ : h₀.get? H2.objs.size = none := fresh₀ _ (by rw [hC]; exact Nat.le_succ _)
  have hLlt : L < s₂.heap.objs.size := F.ns.lt
  have hDL : s₂.heap.objs.size ≠ L := Ne.symm (below L hLlt).2
  have hCL : H2.objs.size ≠ L := Ne.symm (below L hLlt).1
  have hCf : H2.objs.size ∉ fp := fun hm => (below _ (hfl _ hm)).1 rfl
  have hDf : s₂.heap.objs.size ∉ fp := fun hm => (below _ (hfl _ hm)).2 rfl
  have hwf : ∀ b ∈ wr, b ∈ fp := W.sub
  have hCw : H2.objs.size ∉ wr := fun hm => hCf (hwf _ hm)
  have hDw : s₂.heap.objs.size ∉ wr := fun hm => hDf (hwf _ hm)
  have hLw : L ∉ wr := fun hm => hL (hwf _ hm)
  have offW : ∀ its, Objs ws its → ∀ q ∈ its, q.1 ∈ ws.map (·.1) := fun its hi q hq => by rw [← hi.map]; exact List.mem_map_of_mem hq
  have offCD : ∀ its, Objs ws its → ∀ q ∈ its, q.1 ≠ H2.objs.size ∧ q.1 ≠ s₂.heap.objs.size := fun its hi q hq => below _ (hfl _ (hws _ (offW its hi q hq)).1)
  have loop : ∀ s₃ : Shared, s₃ = { s₂ with heap := h₁, toks := s₂.toks + ([] : List (PySem.Str × Value)).length } →
      codeAny (model prog w) A (.compLoop (.ListComp elt [⟨.Tuple [.Name a pa, .Name b pb] kk tp, iter, tl ct, 0⟩] scope pos) 0 (.ref I) (.ref s₂.heap.objs.size) (compEnvC scope cl H2.objs.size env))
        (RR (.ref s₂.heap.objs.size) H2.objs.size) s₃ := by
    rintro s₃ rfl
    refine mc_loop
      (McI h₀ L m s₂ H2.objs.size s₂.heap.objs.size n St ws keep xs (MRest prog w A h₀ L m env ct elt a b scope cl s₂ (Objs ws) keep Fin)) ?_ (n + 1)
      (fun _ kk => kk h₁ _ s₂.toks 0 [] _ news rfl (Nat.le_add_right _ _) (Nat.zero_le _) rfl (Nat.le_refl _) hst₁ (F.keeps old) hns₁ (fun p hp => ?_) (fun p hp => below _ (Heap.lt_size (N p hp).1)) hnw hk (by rw [List.drop_zero]; exact R))
    · intro k s' hI
      refine hI _ ?_
      clear hI
      rintro h' tk nn i ys m' news' rfl hge hi rfl hyl hst' F' hn' N' offN offI hk' R'
      by_cases hlt : i < n
      · refine wpAny_grow (W.item i _ _ _ hlt hst' fun v h₂ tk₂ hMd hk₂ => ?_)
        intro hg₂
        replace hg₂ : nn ≤ tk₂ := Nat.le_trans hge hg₂
        refine W.go i v _ _ _ hMd fun h₃ hP hst₃ hk₃ => ?_
        obtain ⟨p, T, t, u, hp, rfl, hT⟩ := hxs i v h₃ hP
        have up₃ : ∀ c o, c ∉ wr → h'.get? c = some o → h₃.get? c = some o := fun c o hc e => hk₃ c o hc (hk₂ c o hc e)
        refine wpAny_grow (kcp_assign (env := compEnvC scope cl H2.objs.size env) hh hT (lookup_relabel_local hxa) (lookup_relabel_local hxb) (by simp [compEnvC, relabel, hkind]) (hn'.at' fun o e => up₃ _ o hCw e) fun h₄ tk₄ hn₄ hs₄ => ?_)
        intro hg₄
        replace hg₄ : nn ≤ tk₄ := Nat.le_trans hg₂ hg₄
        have up : ∀ c o, c ∉ wr → c ≠ H2.objs.size → h'.get? c = some o → h₄.get? c = some o := fun c o h1 h2 e => hs₄ c o h2 (up₃ c o h1 e)
        have hst₄ : St (i + 1) h₄ := W.frame _ _ _ hst₃ fun b hb o e => hs₄ b o (fun q => hCf (by have q' : b = H2.objs.size := q; rw [← q']; exact hb)) e
        obtain ⟨its, hits, hget⟩ := hobj _ _ hst₄
        obtain ⟨oC, heC, hoC⟩ := ns_obj hn₄
        have none_wr : ∀ c ∈ wr, h₀.get? c = none := fun c hc => (hws c (hwr c hc)).2
        have F₄ : Fr h₀ L h₄ m := ⟨F'.ns.at' fun o e => up _ o hLw (Ne.symm hCL) e, fun c o e => up c o (fun q => by rw [none_wr c q] at e; cases e) (fun q => by rw [q, hC₀] at e; cases e) (F'.keep c o e), F'.above⟩
        have hdrop : xs.drop i = p :: xs.drop (i + 1) := by
          have hlt' : i < xs.length := by rw [hn]; exact hlt
          rw [List.drop_eq_getElem_cons hlt']
          congr 1
          exact Option.some.inj ((List.getElem?_eq_getElem hlt').symm.trans hp)
        have R'' : MRest prog w A h₀ L m env ct elt a b scope cl s₂ (Objs ws) keep Fin (p :: xs.drop (i + 1)) nn ys news' := by rw [← hdrop]; exact R'
        have N₄ : News h₀ L h₄ ((H2.objs.size, oC) :: (s₂.heap.objs.size, lst ys) :: (news' ++ its)) := fun q hq => by
          rcases List.mem_cons.mp hq with rfl | hq
          · exact ⟨heC, hCL, hC₀⟩
          · rcases List.mem_cons.mp hq with rfl | hq
            · have z := N' _ List.mem_cons_self
              exact ⟨up _ _ hDw hDC z.1, z.2⟩
            · rcases List.mem_append.mp hq with hq | hq
              · have z := N' q (List.mem_cons_of_mem _ hq)
                exact ⟨up _ _ (fun q' => offI q hq (hwr _ q')) (offN q hq).1 z.1, z.2⟩
              · refine ⟨hget q hq, fun q' => hL ?_, (hws _ (offW its hits q hq)).2⟩
                rw [← q']; exact (hws _ (offW its hits q hq)).1
        have oIN : ∀ q ∈ news', ∀ z ∈ its, q.1 ≠ z.1 := fun q hq z hz e => offI q hq (e ▸ offW its hits z hz)
        have fin : ∀ (ys' : List Value), (ys' = ys ∨ ys'.length = ys.length + 1) → ∀ h₅ tk₅ news₅, Fr h₀ L h₅ m → News h₀ L h₅ ((H2.objs.size, oC) :: (s₂.heap.objs.size, lst ys') :: (news₅ ++ its)) → (∀ p ∈ news₅, p.1 ≠ H2.objs.size ∧ p.1 ≠ s₂.heap.objs.size) → (∀ p ∈ news₅, ∀ q ∈ its, p.1 ≠ q.1) → (∀ p ∈ keep, p ∈ news₅) → MRest prog w A h₀ L m env ct elt a b scope cl s₂ (Objs ws) keep Fin (xs.drop (i + 1)) tk₅ ys' news₅ →
            ∃ k', k' < n + 1 - i ∧ McI h₀ L m s₂ H2.objs.size s₂.heap.objs.size n St ws keep xs (MRest prog w A h₀ L m env ct elt a b scope cl s₂ (Objs ws) keep Fin) k' { s₂ with heap := h₅, toks := tk₅ } := by
          intro ys' hys h₅ tk₅ news₅ F₅ N₅ off₅ offI₅ hk₅ R₅
          have hst₅ : St (i + 1) h₅ := W.frame _ _ _ hst₄ fun c hc o e => by
            rcases hfp c hc with hc | ⟨o', hc⟩
            · have hc' : c ∈ its.map (·.1) := by rw [hits.map]; exact hc
              obtain ⟨q, hq, hqe⟩ := List.mem_map.mp hc'
              have hqe' : q.1 = c := hqe
              subst hqe'
              have e' := hget q hq
              rw [e] at e'
              cases e'
              exact (N₅ q (by simp [hq])).1
            · have e' := (N₄ (c, o') (by simp [hk' _ hc])).1
              have e'' : h₄.get? c = some o' := e'
              rw [e] at e''
              cases e''
              exact (N₅ (c, o) (by simp [hk₅ _ hc])).1
          refine ⟨n + 1 - (i + 1), by omega, fun _ kk => kk h₅ tk₅ tk₅ (i + 1) ys' _ news₅ rfl (Nat.le_refl _) hlt rfl ?_ hst₅ F₅ (hoC.ns (N₅ _ List.mem_cons_self).1) (fun q hq => ?_) off₅ (fun q hq hq' => ?_) hk₅ R₅⟩
          · rcases hys with rfl | hys
            · exact Nat.le_succ_of_le hyl
            · rw [hys]; exact Nat.succ_le_succ hyl
          · rcases List.mem_cons.mp hq with rfl | hq
            · exact N₅ _ (List.mem_cons_of_mem _ List.mem_cons_self)
            · exact N₅ _ (by simp [hq])
          · have hc' : q.1 ∈ its.map (·.1) := by rw [hits.map]; exact hq'
            obtain ⟨z, hz, hze⟩ := List.mem_map.mp hc'
            exact offI₅ q hq z hz hze.symm
        refine MBody_mono (R'' t u its H2.objs.size oC s₂.heap.objs.size _ h₄ _ _ hg₄ hits hoC (by simp [hab]) (by simp) F₄ N₄ offN oIN (offCD its hits) (Ne.symm hDC)) (fun y s₅ h₅ => ?_) (fun s₅ h₅ => ?_)
        · refine h₅ _ ?_
          clear h₅
          rintro h₅ tk₅ news₅ rfl F₅ N₅ off₅ offI₅ hk₅ R₅
          have zD := (N₅ (s₂.heap.objs.size, lst ys) (List.mem_cons_of_mem _ List.mem_cons_self)).1
          refine append_at (hsz := by show ys.toArray.size ≤ sizeLine; rw [List.size_toArray]; exact Nat.le_trans hyl (Nat.le_trans hi hsz)) zD fun h₆ hs₆ hD₆ => ?_
          refine fin (ys ++ [y]) (.inr (by simp)) h₆ tk₅ news₅ (F₅.change hs₆ hDL hD₀) (fun q hq => ?_) off₅ offI₅ hk₅ R₅
          rcases List.mem_cons.mp hq with rfl | hq
          · have z := N₅ _ List.mem_cons_self
            exact ⟨hs₆.extBut _ _ (Ne.symm hDC) z.1, z.2⟩
          · rcases List.mem_cons.mp hq with rfl | hq
            · exact ⟨hD₆.trans (congrArg some (lst_snoc ys y)), hDL, hD₀⟩
            · have z := N₅ q (List.mem_cons_of_mem _ (List.mem_cons_of_mem _ hq))
              refine ⟨hs₆.extBut _ _ ?_ z.1, z.2⟩
              rcases List.mem_append.mp hq with hq | hq
              · exact (off₅ q hq).2
              · exact (offCD its hits q hq).2
        · refine h₅ _ ?_
          clear h₅
          rintro h₅ tk₅ news₅ rfl F₅ N₅ off₅ offI₅ hk₅ R₅
          exact fin ys (.inl rfl) h₅ tk₅ news₅ F₅ N₅ off₅ offI₅ hk₅ R₅
      · have hin : i = n := Nat.le_antisymm hi (Nat.not_lt.mp hlt)
        subst hin
        have hnil : xs.drop i = [] := List.drop_eq_nil_of_le (Nat.le_of_eq hn)
        rw [hnil] at R'
        refine wpAny_grow (W.done _ _ _ hst' fun h₂ tk₂ hk₂ => ?_)
        intro hg₂
        have none_wr : ∀ c ∈ wr, h₀.get? c = none := fun c hc => (hws c (hwr c hc)).2
        refine hRR nn _ _ h₂ tk₂ _ ys news' (Nat.le_trans hge hg₂) ⟨F'.ns.at' fun o e => hk₂ _ o hLw e, fun c o e => hk₂ c o (fun q => by rw [none_wr c q] at e; cases e) (F'.keep c o e), F'.above⟩ (fun q hq => ?_) (fun q hq => (offN q hq).2) (fun q hq => Heap.lt_size (N q hq).1) (hn'.at' fun o e => hk₂ _ o hCw e) hC₀ hD₀ hCL hDL (Ne.symm hDC) (fun q hq => (offN q hq).1) R'
        have z := N' q hq
        refine ⟨hk₂ _ _ (fun q' => ?_) z.1, z.2⟩
        rcases List.mem_cons.mp hq with rfl | hq
        · exact hDw q'
        · exact offI q hq (hwr _ q')
    · rcases List.mem_cons.mp hp with rfl | hp
      · exact ⟨hacc, hDL, hD₀⟩
      · exact ⟨old _ _ (N p hp).1, (N p hp).2⟩
  exact codeAny_compStart_list (loop _ rfl) (hself h₁ _ _ _ rfl hst₁ (loop _ rfl))

noncomputable def McAt (prog : PySem.Program) (w : World) (A : Around) (h₀ : Heap) (L : Addr) (m : PySem.Str → Option Value) (env : Env) (ct : Option PySem.Expr) (elt : PySem.Expr) (a b : PySem.Str) (pa pb tp : Pos) (kk : Nat) (scope : Scope) (cl : List (PySem.Str × Addr)) (Fin : Shared → Led → Nat → List Value → Led → Prop) (it : Value) (s₂ : Shared) : Prop :=
  ∀ (iter : PySem.Expr) (pos : Pos) (E : Value → Shared → Prop) (RR : Value → Addr → Result → Shared → Prop), (∀ y ∈ scope.names, y.2 ≠ .cell) → scope.kind = .function → scope.names.lookup a = some .local → scope.names.lookup b = some .local → (¬ a = b) →
    (∀ news nn D C h tk m' ys news', nn ≤ tk → Fr h₀ L h m → News h₀ L h ((D, lst ys) :: news') → (∀ p ∈ news', p.1 ≠ D) → (∀ p ∈ news, p.1 < D) → h.Ns C m' → h₀.get? C = none → h₀.get? D = none → C ≠ L → D ≠ L → C ≠ D → (∀ p ∈ news', p.1 ≠ C) → Fin s₂ news nn ys news' → RR (.ref D) C (.ok .next) { s₂ with heap := h, toks := tk }) →
    wpAny (model prog w) A (newList []) (fun acc s₃ => wpAny (model prog w) A (newFunctionEnv scope env.globals cl [] env.qual none .none (some env)) (fun cenv s₄ =>
      codeAny (model prog w) A (.compStart (.ListComp elt [⟨.Tuple [.Name a pa, .Name b pb] kk tp, iter, tl ct, 0⟩] scope pos) 0 it acc { cenv with scope := relabel scope env }) (RR acc cenv.locals) s₄) E s₃) E s₂
noncomputable def MFinE (h₀ : Heap) (L : Addr) (m : PySem.Str → Option Value) (Q : Value → Shared → Prop) (s : Shared) (news₀ : Led) (nn : Nat) (ys : List Value) (news : Led) : Prop :=
  ∀ D h tk, nn ≤ tk → Fr h₀ L h m → News h₀ L h ((D, lst ys) :: news) → (∀ p ∈ news, p.1 ≠ D) → (∀ p ∈ news₀, p.1 < D) → Q (.ref D) { s with heap := h, toks := tk }
theorem mc_List {elt iter : PySem.Expr} {ct : Option PySem.Expr} {a b : PySem.Str} {pa pb tp : Pos} {kk : Nat} {scope : Scope} {cl : List (PySem.Str × Addr)} {pos : Pos} {Q : Value → Shared → Prop} (_F₀ : Fr h₀ L s.heap m)
    (hclos : closureFor scope env = pure cl) (hcell : ∀ y ∈ scope.names, y.2 ≠ .cell) (hkind : scope.kind = .function)
    (hnames : ∀ y ∈ scope.names, y.2 = .local → scope.names.lookup y.1 = some .local) (hxa : scope.names.lookup a = some .local) (hxb : scope.names.lookup b = some .local) (hab : ¬ a = b)
    (h : wpAny (model prog w) A (eval iter env) (fun xv s₁ => wpAny (model prog w) A (pyIter xv) (fun it s₂ => McAt prog w A h₀ L m env ct elt a b pa pb tp kk scope cl (MFinE h₀ L m Q) it s₂) E s₁) E s)
    (hs : ∀ x, foldedSetIterable iter env x = pure x := by intro _; rfl) :
    wpAny (model prog w) A (eval (.ListComp elt [⟨.Tuple [.Name a pa, .Name b pb] kk tp, iter, tl ct, 0⟩] scope pos) env) Q E s := by
  rw [eval_ListComp]
  refine wpAny_comprehension_free (use := none) rfl hs hclos hkind hnames (wpAny_mono h (fun xv s₁ h₁ => wpAny_mono h₁ (fun it s₂ h₂ => ?_) fun _ _ e => e) fun _ _ e => e)
  refine h₂ _ _ _ _ hcell hkind hxa hxb hab ?_
  intro _ nn D C h tk m' ys news' hge F' N' o1 o2 hn hC₀ hD₀ hCL hDL hCD offC fin
  refine ⟨m', hn, fun h'' hs'' => fin D h'' tk hge (F'.change hs'' hCL hC₀) (fun p hp => ?_) o1 o2⟩
  refine ⟨hs''.extBut _ _ ?_ (N' p hp).1, (N' p hp).2⟩
  rcases List.mem_cons.mp hp with rfl | hp
  · exact Ne.symm hCD
  · exact offC p hp
end
/-- one side of a zip -/
structure Arm (v : Value) (xs : List VF) (kp : Led) (o : Obj) (c : String) : Prop where
  nf : o.isFreed = false
  pi : ∀ h : Heap, (∀ p ∈ kp, h.get? p.1 = some p.2) → PI v o h
  dr : ∀ (prog : PySem.Program) (w : World) (A : Around) (it : Addr), A.handled = none → it ∉ kp.map (·.1) → ∃ P St, Draws prog w A it (it :: kp.map (·.1)) xs.length P St ∧ (∀ i x, P i x → ∃ f t, xs[i]? = some f ∧ x = f t) ∧
    (∀ h : Heap, h.get? it = some o → (∀ p ∈ kp, h.get? p.1 = some p.2) → St 0 h) ∧ (∀ i h, St i h → ∃ o', h.get? it = some o' ∧ o'.cls = .type c)
noncomputable abbrev fixed (vs : List Value) : List VF := vs.map fun v _ => v
theorem Arm.list {a : Addr} {vs : List Value} {n : Nat} : Arm (.ref a) (fixed vs) [(a, W.listOf vs.toArray n)] (itL a) "list_iterator" where
  nf := rfl
  pi := fun h hk => PI.list (items := vs.toArray) ⟨_, hk _ (.head _), rfl, n, rfl⟩
  dr := fun prog w A it hh hne => by
    refine ⟨fun i v => vs.toArray[i]? = some v, fun i h => h.IsListIter it a i ∧ h.IsList a vs.toArray, ?_, fun i x hx => ⟨fun _ => x, 0, ?_, rfl⟩, fun h ho hk => ⟨⟨_, ho, rfl, rfl⟩, ⟨_, hk _ (.head _), rfl, n, rfl⟩⟩, fun i h st => ?_⟩
    · have D := Draws.list (prog := prog) (w := w) hh it a (fun e => hne (by simp [e])) vs.toArray
      simpa using D
    · simp only [List.getElem?_toArray] at hx
      simp [hx]
    · obtain ⟨⟨o, e, c, _⟩, _⟩ := st
      exact ⟨o, e, c⟩
theorem Arm.tuple {a : Addr} {vs : List Value} {n : Nat} : Arm (.ref a) (fixed vs) [(a, ({ cls := .type "tuple", data := .seq vs.toArray n } : Obj))] (itT a) "tuple_iterator" where
  nf := rfl
  pi := fun h hk => PI.tuple (items := vs.toArray) ⟨_, hk _ (.head _), rfl, n, rfl⟩
  dr := fun prog w A it hh hne => by
    refine ⟨fun i v => vs.toArray[i]? = some v, fun i h => h.IsTupleIter it a i ∧ h.IsTuple a vs.toArray, ?_, fun i x hx => ⟨fun _ => x, 0, ?_, rfl⟩, fun h ho hk => ⟨⟨_, ho, rfl, rfl⟩, ⟨_, hk _ (.head _), rfl, n, rfl⟩⟩, fun i h st => ?_⟩
    · have D := drawsTuple (prog := prog) (w := w) hh it a (fun e => hne (by simp [e])) vs.toArray
      simpa using D
    · simp only [List.getElem?_toArray] at hx
      simp [hx]
    · obtain ⟨⟨o, e, c, _⟩, _⟩ := st
      exact ⟨o, e, c⟩
section
variable {prog : PySem.Program} {w : World} {A : Around} {E : Value → Shared → Prop} {s : Shared} {h₀ : Heap} {L : Addr} {m : PySem.Str → Option Value} {env : Env}
theorem mc_zip {ct : Option PySem.Expr} {elt : PySem.Expr} {a b : PySem.Str} {pa pb tp : Pos} {kk : Nat} {scope : Scope} {cl : List (PySem.Str × Addr)} {Fin : Shared → Led → Nat → List Value → Led → Prop} {news : Led} {v1 v2 : Value} {xs1 xs2 : List VF} {xs : List (VF × VF)} {k1 k2 : Led} {o1 o2 : Obj} {c1 c2 : String}
    (hh : A.handled = none) (F : Fr h₀ L s.heap m) (N : News h₀ L s.heap news) (A1 : Arm v1 xs1 k1 o1 c1) (A2 : Arm v2 xs2 k2 o2 c2) (hk1 : ∀ p ∈ k1, p ∈ news) (hk2 : ∀ p ∈ k2, p ∈ news) (hx : xs1.zip xs2 = xs) (hsz : xs.length ≤ 1000)
    (R : ∀ (g : Heap) (i0 : Led → Prop), MRest prog w A h₀ L m env ct elt a b scope cl { s with heap := g } i0 (k1 ++ k2) (Fin { s with heap := g } news) xs s.toks [] news) :
    wpAny (model prog w) A (call (.type "zip") [v1, v2]) (fun xv s₁ => wpAny (model prog w) A (pyIter xv) (fun it s₂ => McAt prog w A h₀ L m env ct elt a b pa pb tp kk scope cl Fin it s₂) E s₁) E s := by
  subst hx
  have lt1 : ∀ p ∈ k1, @LT.lt Nat _ p.1 s.heap.objs.size := fun p hp => Heap.lt_size (N p (hk1 p hp)).1
  have lt2 : ∀ p ∈ k2, @LT.lt Nat _ p.1 s.heap.objs.size := fun p hp => Heap.lt_size (N p (hk2 p hp)).1
  have ne1 : ∀ j, s.heap.objs.size + j ∉ k1.map (·.1) := fun j hm => by obtain ⟨p, hp, e⟩ := List.mem_map.mp hm; have := lt1 p hp; exact Nat.ne_of_lt (Nat.lt_of_lt_of_le this (Nat.le_add_right _ j)) e
  have ne2 : ∀ j, s.heap.objs.size + j ∉ k2.map (·.1) := fun j hm => by obtain ⟨p, hp, e⟩ := List.mem_map.mp hm; have := lt2 p hp; exact Nat.ne_of_lt (Nat.lt_of_lt_of_le this (Nat.le_add_right _ j)) e
  have hLs : L < s.heap.objs.size := F.ns.lt
  refine call_zipQ (A1.pi _ fun p hp => (N p (hk1 p hp)).1) (A2.pi _ fun p hp => Heap.get?_push_of_some _ (N p (hk2 p hp)).1) A1.nf A2.nf fun h' hz hTI hTO g1 g2 _ hk => ?_
  obtain ⟨P1, S1, D1, q1, st1, ob1⟩ := A1.dr prog w A.in1 s.heap.objs.size hh (ne1 0)
  obtain ⟨P2, S2, D2, q2, st2, ob2⟩ := A2.dr prog w A.in1 (s.heap.objs.size + 1) hh (ne2 1)
  have hne : ∀ (i j : Nat), i ≠ j → (s.heap.objs.size + i : Nat) ≠ s.heap.objs.size + j := fun i j h e => h (Nat.add_left_cancel e)
  have hne0 : ∀ j : Nat, 0 ≠ j → (s.heap.objs.size : Nat) ≠ s.heap.objs.size + j := fun j h e => h (by omega)
  have f1 : ∀ j : Nat, 0 ≠ j → s.heap.objs.size + j ∉ s.heap.objs.size :: k1.map (·.1) := fun j h hm => by
    rcases List.mem_cons.mp hm with e | e
    · exact hne0 j h e.symm
    · exact ne1 j e
  have f2 : ∀ j : Nat, 1 ≠ j → s.heap.objs.size + j ∉ (s.heap.objs.size + 1) :: k2.map (·.1) := fun j h hm => by
    rcases List.mem_cons.mp hm with e | e
    · exact hne 1 j h e.symm
    · exact ne2 j e
  have D : ZA (s.heap.objs.size + 4) (s.heap.objs.size + 2) (s.heap.objs.size + 3) s.heap.objs.size (s.heap.objs.size + 1) (s.heap.objs.size :: k1.map (·.1)) ((s.heap.objs.size + 1) :: k2.map (·.1)) :=
    ⟨hne 2 4 (by decide), hne 3 4 (by decide), hne0 4 (by decide), hne 1 4 (by decide), hne 2 3 (by decide), (hne0 2 (by decide)).symm, hne 2 1 (by decide), (hne0 3 (by decide)).symm, hne 3 1 (by decide), hne0 1 (by decide), f1 4 (by decide), f2 4 (by decide), f1 3 (by decide), f2 3 (by decide), f1 1 (by decide), f2 0 (by decide)⟩
  refine wpAny_pyIter_zip hz (fun iter pos E RR hcell hkind hxa hxb hab hRR => ?_)
  refine mc_block (ws := [(s.heap.objs.size + 4, "zip"), (s.heap.objs.size + 2, "tuple"), (s.heap.objs.size + 3, "tuple"), (s.heap.objs.size, c1), (s.heap.objs.size + 1, c2)]) (keep := k1 ++ k2) (xs := xs1.zip xs2) (news := news) hh
    (KTurns.ofWalksU (zipW D D1 D2 List.mem_cons_self List.mem_cons_self).toU) List.length_zip ?_ ?_ ?_ ?_ ?_ ?_ ?_ ?_ ?_ ?_ ?_ (F.keeps hk) (N.grown hk) ?_ hcell hkind hxa hxb hab (R h' _) (hRR news)
  · rw [List.length_zip] at hsz
    rw [sizeLine_eq]; omega
  · rintro i v h ⟨T, vals, rfl, ⟨x, y, hx, hy, rfl⟩, hT⟩
    obtain ⟨f, t, hf, rfl⟩ := q1 i x hx
    obtain ⟨g, u, hg, rfl⟩ := q2 i y hy
    exact ⟨(f, g), T, t, u, List.getElem?_zip_eq_some.mpr ⟨hf, hg⟩, rfl, hT⟩
  · rintro h s' Q E rfl ⟨hz', _⟩ hQ
    exact wpAny_pyIter_zip hz' hQ
  · rintro i h ⟨hz', hTI', ⟨x, y, hTO'⟩, s1, s2⟩
    obtain ⟨oa, ha, ca⟩ := ob1 i h s1
    obtain ⟨ob, hb, cb⟩ := ob2 i h s2
    have e1 : ∃ o : Obj, h.get? (s.heap.objs.size + 4) = some o ∧ o.cls = .type "zip" := ⟨_, hz', rfl⟩
    have e2 : ∃ o : Obj, h.get? (s.heap.objs.size + 2) = some o ∧ o.cls = .type "tuple" := ⟨_, hTI', rfl⟩
    have e3 : ∃ o : Obj, h.get? (s.heap.objs.size + 3) = some o ∧ o.cls = .type "tuple" := ⟨_, hTO', rfl⟩
    obtain ⟨r1, g1, k1⟩ := e1
    obtain ⟨r2, g2, k2⟩ := e2
    obtain ⟨r3, g3, k3⟩ := e3
    exact ⟨[(s.heap.objs.size + 4, r1), (s.heap.objs.size + 2, r2), (s.heap.objs.size + 3, r3), (s.heap.objs.size, oa), (s.heap.objs.size + 1, ob)], ⟨⟨rfl, k1⟩, ⟨rfl, k2⟩, ⟨rfl, k3⟩, ⟨rfl, ca⟩, ⟨rfl, cb⟩, trivial⟩,
      List.forall_mem_cons.mpr ⟨g1, List.forall_mem_cons.mpr ⟨g2, List.forall_mem_cons.mpr ⟨g3, List.forall_mem_cons.mpr ⟨ha, List.forall_mem_cons.mpr ⟨hb, List.forall_mem_nil _⟩⟩⟩⟩⟩⟩
  · intro c hc
    simp only [List.map_cons, List.map_nil, List.mem_cons, List.mem_nil_iff, or_false] at hc
    rcases hc with rfl | rfl | rfl | rfl | rfl
    · exact ⟨by simp, ktu_new F (Nat.le_add_right _ _)⟩
    · exact ⟨by simp, ktu_new F (Nat.le_add_right _ _)⟩
    · exact ⟨by simp, ktu_new F (Nat.le_add_right _ _)⟩
    · exact ⟨by simp, ktu_new F (Nat.le_refl _)⟩
    · exact ⟨by simp, ktu_new F (Nat.le_add_right _ _)⟩
  · intro c hc
    simp only [List.mem_cons, List.mem_nil_iff, or_false] at hc
    rcases hc with rfl | rfl | rfl | rfl <;> simp
  · intro c hc
    simp only [List.mem_cons, List.mem_append, List.mem_map] at hc
    rcases hc with rfl | rfl | rfl | (rfl | ⟨p, hp, rfl⟩) | (rfl | ⟨p, hp, rfl⟩)
    · exact .inl (by simp)
    · exact .inl (by simp)
    · exact .inl (by simp)
    · exact .inl (by simp)
    · exact .inr ⟨p.2, by simp [hp]⟩
    · exact .inl (by simp)
    · exact .inr ⟨p.2, by simp [hp]⟩
  · intro hc
    simp only [List.mem_cons, List.mem_append, List.mem_map] at hc
    rcases hc with e | e | e | (e | ⟨p, hp, e⟩) | (e | ⟨p, hp, e⟩)
    · exact ktu_ne 4 hLs e
    · exact ktu_ne 2 hLs e
    · exact ktu_ne 3 hLs e
    · exact Nat.ne_of_lt hLs e
    · exact (N p (hk1 p hp)).2.1 e
    · exact ktu_ne 1 hLs e
    · exact (N p (hk2 p hp)).2.1 e
  · intro p hp hc
    have hlp := Heap.lt_size (N p hp).1
    simp only [List.map_cons, List.map_nil, List.mem_cons, List.mem_nil_iff, or_false] at hc
    rcases hc with e | e | e | e | e
    · exact ktu_ne 4 hlp e
    · exact ktu_ne 2 hlp e
    · exact ktu_ne 3 hlp e
    · exact Nat.ne_of_lt hlp e
    · exact ktu_ne 1 hlp e
  · exact ⟨hz, hTI, ⟨_, _, hTO⟩, st1 _ g1 fun p hp => hk _ _ (N p (hk1 p hp)).1, st2 _ g2 fun p hp => hk _ _ (N p (hk2 p hp)).1⟩
  · intro c hc
    have hsz' : @LT.lt Nat _ (s.heap.objs.size + 4) h'.objs.size := Heap.lt_size hz
    simp only [List.mem_cons, List.mem_append, List.mem_map] at hc
    rcases hc with rfl | rfl | rfl | (rfl | ⟨p, hp, rfl⟩) | (rfl | ⟨p, hp, rfl⟩)
    · exact hsz'
    · show @LT.lt Nat _ (s.heap.objs.size + 2) h'.objs.size; omega
    · show @LT.lt Nat _ (s.heap.objs.size + 3) h'.objs.size; omega
    · show @LT.lt Nat _ s.heap.objs.size h'.objs.size; omega
    · have := lt1 p hp; show @LT.lt Nat _ p.1 h'.objs.size; omega
    · show @LT.lt Nat _ (s.heap.objs.size + 1) h'.objs.size; omega
    · have := lt2 p hp; show @LT.lt Nat _ p.1 h'.objs.size; omega
  · intro p hp
    rcases List.mem_append.mp hp with hp | hp
    · exact hk1 p hp
    · exact hk2 p hp
/-- pairs that lie in a list -/
theorem mc_pairs {ct : Option PySem.Expr} {elt : PySem.Expr} {a b : PySem.Str} {pa pb tp : Pos} {kk : Nat} {scope : Scope} {cl : List (PySem.Str × Addr)} {Fin : Shared → Led → Nat → List Value → Led → Prop} {news : Led} {ax : Addr} {ts : List (Addr × Value × Value)} {k : Nat}
    (hh : A.handled = none) (F : Fr h₀ L s.heap m) (N : News h₀ L s.heap news) (hm : (ax, W.listOf (ts.map fun e => Value.ref e.1).toArray k) ∈ news) (ht : ∀ e ∈ ts, (e.1, tup [e.2.1, e.2.2]) ∈ news) (hsz : ts.length ≤ 1000)
    (R : ∀ (g : Heap) (i0 : Led → Prop), MRest prog w A h₀ L m env ct elt a b scope cl { s with heap := g } i0 ((ax, W.listOf (ts.map fun e => Value.ref e.1).toArray k) :: ts.map fun e => (e.1, tup [e.2.1, e.2.2])) (Fin { s with heap := g } news) (ts.map fun e => (fun _ => e.2.1, fun _ => e.2.2)) s.toks [] news) :
    wpAny (model prog w) A (pyIter (.ref ax)) (fun it s₂ => McAt prog w A h₀ L m env ct elt a b pa pb tp kk scope cl Fin it s₂) E s := by
  have hax := N _ hm
  have hlt : ax < s.heap.objs.size := Heap.lt_size hax.1
  have hl : s.heap.IsList ax (ts.map fun e => Value.ref e.1).toArray := ⟨_, hax.1, rfl, k, rfl⟩
  have hLs : L < s.heap.objs.size := F.ns.lt
  refine wpAny_pyIter_list hl ?_
  have up : ∀ c o, s.heap.get? c = some o → (s.heap.push { cls := .type "list_iterator", data := .fields #[.ref ax, .int 0 0] }).get? c = some o := fun c o e => Heap.get?_push_of_some _ e
  have hts : ∀ e ∈ ts, e.1 < s.heap.objs.size := fun e he => Heap.lt_size (N _ (ht e he)).1
  let Ts : Nat → Addr := fun j => (ts.map (·.1)).getD j 0
  let vals : Nat → Array Value := fun j => match ts[j]? with | some e => #[e.2.1, e.2.2] | none => #[]
  have hsize : (ts.map fun e => Value.ref e.1).toArray.size = ts.length := by simp
  have hTs : ∀ j (h : j < ts.length), Ts j = ts[j].1 := fun j h => by simp [Ts, h]
  have hvals : ∀ j (h : j < ts.length), vals j = #[ts[j].2.1, ts[j].2.2] := fun j h => by simp [vals, h]
  have WU := WalksU.listOfTuples (prog := prog) (w := w) (A := A) hh s.heap.objs.size ax (Nat.ne_of_lt hlt) (ts.map fun e => Value.ref e.1).toArray Ts vals
    (fun j hj => by rw [hsize] at hj; rw [hTs j hj]; simp [hj]) (fun j hj => by rw [hsize] at hj; rw [hTs j hj]; exact Nat.ne_of_lt (hts _ (List.getElem_mem hj)))
  intro iter pos E RR hcell hkind hxa hxb hab hRR
  refine mc_block (ws := [(s.heap.objs.size, "list_iterator")]) (news := news) hh (KTurns.ofWalksU WU.bound) (by rw [hsize]; simp) (by rw [hsize, sizeLine_eq]; omega) ?_ ?_ ?_ ?_ ?_ ?_ ?_ ?_ ?_ ?_ (F.keeps up) (N.grown up) ?_ hcell hkind hxa hxb hab (R _ _) (hRR news)
  · rintro i v h ⟨T, vs, rfl, ⟨hi, rfl⟩, hT⟩
    rw [hsize] at hi
    rw [hvals i hi] at hT
    exact ⟨(fun _ => ts[i].2.1, fun _ => ts[i].2.2), T, 0, 0, by simp [hi], rfl, hT⟩
  · rintro h s' Q E rfl ⟨h1, _⟩ hQ
    exact wpAny_pyIter_listiter h1 hQ
  · rintro i h ⟨⟨o, e, c, _⟩, _⟩
    exact ⟨[(s.heap.objs.size, o)], ⟨⟨rfl, c⟩, trivial⟩, List.forall_mem_cons.mpr ⟨e, List.forall_mem_nil _⟩⟩
  · intro c hc
    have e : c = s.heap.objs.size := by simpa using hc
    subst e
    exact ⟨by simp, next_is_new F⟩
  · intro c hc
    simpa using hc
  · intro c hc
    rcases List.mem_cons.mp hc with rfl | hc
    · exact .inl (by simp)
    · rcases List.mem_cons.mp hc with rfl | hc
      · exact .inr ⟨_, List.mem_cons_self⟩
      · obtain ⟨j, hj, rfl⟩ := List.mem_map.mp hc
        have hj' : j < ts.length := by simpa using hj
        refine .inr ⟨tup [ts[j].2.1, ts[j].2.2], List.mem_cons_of_mem _ (List.mem_map.mpr ⟨ts[j], List.getElem_mem hj', ?_⟩)⟩
        exact Prod.ext (hTs j hj').symm rfl
  · intro hc
    rcases List.mem_cons.mp hc with e | hc
    · exact Nat.ne_of_lt hLs e
    · rcases List.mem_cons.mp hc with e | hc
      · exact hax.2.1 e.symm
      · obtain ⟨j, hj, e⟩ := List.mem_map.mp hc
        have hj' : j < ts.length := by simpa using hj
        rw [hTs j hj'] at e
        exact (N _ (ht _ (List.getElem_mem hj'))).2.1 e
  · intro p hp hc
    have e : p.1 = s.heap.objs.size := by simpa using hc
    exact Nat.ne_of_lt (Heap.lt_size (N p hp).1) e
  · refine ⟨⟨_, Heap.get?_push_size _ rfl, rfl, rfl⟩, hl.push _, fun j hj => ?_⟩
    rw [hsize] at hj
    rw [hTs j hj, hvals j hj]
    exact ⟨_, up _ _ (N _ (ht _ (List.getElem_mem hj))).1, rfl, 0, rfl⟩
  · intro c hc
    show c < (s.heap.push _).objs.size
    rw [Heap.size_push]
    rcases List.mem_cons.mp hc with rfl | hc
    · exact Nat.lt_succ_self _
    · rcases List.mem_cons.mp hc with rfl | hc
      · exact Nat.lt_succ_of_lt hlt
      · obtain ⟨j, hj, rfl⟩ := List.mem_map.mp hc
        have hj' : j < ts.length := by simpa using hj
        rw [hTs j hj']
        exact Nat.lt_succ_of_lt (hts _ (List.getElem_mem hj'))
  · intro p hp
    rcases List.mem_cons.mp hp with rfl | hp
    · exact hm
    · obtain ⟨e, he, rfl⟩ := List.mem_map.mp hp
      exact ht e he
theorem MRest.gen {ct : Option PySem.Expr} {elt : PySem.Expr} {a b : PySem.Str} {scope : Scope} {cl : List (PySem.Str × Addr)} {i0 : Led → Prop} {keep : Led} {Fin : Nat → List Value → Led → Prop} {xs : List (VF × VF)} {ys : List Value} {news : Led} {n : Nat} (W : (Nat → List Value → Prop) → Prop)
    (k : ∀ Fin' : Nat → List Value → Led → Prop, (W fun n vs => Fin' n vs news) → MRest prog w A h₀ L m env ct elt a b scope cl s i0 keep Fin' xs n ys news) (h : W fun n vs => Fin n vs news) : MRest prog w A h₀ L m env ct elt a b scope cl s i0 keep Fin xs n ys news := k Fin h
theorem MRest.nil {ct : Option PySem.Expr} {elt : PySem.Expr} {a b : PySem.Str} {scope : Scope} {cl : List (PySem.Str × Addr)} {i0 : Led → Prop} {keep : Led} {Fin : Nat → List Value → Led → Prop} {ys : List Value} {news : Led} {n : Nat} (h : Fin n ys news) : MRest prog w A h₀ L m env ct elt a b scope cl s i0 keep Fin [] n ys news := h
theorem MRest.cons {elt : PySem.Expr} {a b : PySem.Str} {scope : Scope} {cl : List (PySem.Str × Addr)} {i0 : Led → Prop} {keep : Led} {Fin : Nat → List Value → Led → Prop} {p : VF × VF} {r : List (VF × VF)} {ys : List Value} {news : Led} {n : Nat}
    (h : ∀ (t u : Tok) its C oC D m₂ h tk (E' : Value → Shared → Prop), n ≤ tk → i0 its → NsObj oC m₂ → m₂ a = some (p.1 t) → m₂ b = some (p.2 u) → Fr h₀ L h m → News h₀ L h ((C, oC) :: (D, lst ys) :: (news ++ its)) →
      (∀ q ∈ news, q.1 ≠ C ∧ q.1 ≠ D) → (∀ q ∈ news, ∀ z ∈ its, q.1 ≠ z.1) → (∀ q ∈ its, q.1 ≠ C ∧ q.1 ≠ D) → (@Ne Nat C D) →
      wpAny (model prog w) A (eval elt (compEnvC scope cl C env)) (MEnd h₀ L m { s with heap := h, toks := tk } C oC D (lst ys) its keep (fun k y news' => MRest prog w A h₀ L m env none elt a b scope cl s i0 keep Fin r k (ys ++ [y]) news')) E' { s with heap := h, toks := tk }) :
    MRest prog w A h₀ L m env none elt a b scope cl s i0 keep Fin (p :: r) n ys news := h
theorem MRest.consT {c elt : PySem.Expr} {a b : PySem.Str} {scope : Scope} {cl : List (PySem.Str × Addr)} {i0 : Led → Prop} {keep : Led} {Fin : Nat → List Value → Led → Prop} {p : VF × VF} {r : List (VF × VF)} {ys : List Value} {news : Led} {n : Nat}
    (h : ∀ (t u : Tok) its C oC D m₂ h tk (E' : Value → Shared → Prop), n ≤ tk → i0 its → NsObj oC m₂ → m₂ a = some (p.1 t) → m₂ b = some (p.2 u) → Fr h₀ L h m → News h₀ L h ((C, oC) :: (D, lst ys) :: (news ++ its)) →
      (∀ q ∈ news, q.1 ≠ C ∧ q.1 ≠ D) → (∀ q ∈ news, ∀ z ∈ its, q.1 ≠ z.1) → (∀ q ∈ its, q.1 ≠ C ∧ q.1 ≠ D) → (@Ne Nat C D) →
      wpAny (model prog w) A (isTrue c (compEnvC scope cl C env) (eval c (compEnvC scope cl C env))) (fun ok s' => if ok = true then
        wpAny (model prog w) A (eval elt (compEnvC scope cl C env)) (MEnd h₀ L m { s with heap := h, toks := tk } C oC D (lst ys) its keep (fun k y news' => MRest prog w A h₀ L m env (some c) elt a b scope cl s i0 keep Fin r k (ys ++ [y]) news')) E' s'
        else MEnd h₀ L m { s with heap := h, toks := tk } C oC D (lst ys) its keep (fun k _ news' => MRest prog w A h₀ L m env (some c) elt a b scope cl s i0 keep Fin r k ys news') .none s') E' { s with heap := h, toks := tk }) :
    MRest prog w A h₀ L m env (some c) elt a b scope cl s i0 keep Fin (p :: r) n ys news := h
end
end Mine
end
section
open PySem PySem.W PyProof.Rows PySem.Calls PySem.Spec PyProof.Rows.LCg
open PyProof.V
set_option maxRecDepth 100000
namespace Mine
section
variable {prog : PySem.Program} {w : World} {A : Around} {E : Value → Shared → Prop} {s : Shared} {h₀ : Heap} {L : Addr} {m : PySem.Str → Option Value} {env : Env}
end
noncomputable def MWEnd (h₀ : Heap) (L : Addr) (s : Shared) (rest : (PySem.Str → Option Value) → Led → Prop) (s₂ : Shared) : Prop := ∃ h' tk m' nw', s₂ = { s with heap := h', toks := tk } ∧ Fr h₀ L h' m' ∧ News h₀ L h' nw' ∧ rest m' nw'
noncomputable def MWPost (h₀ : Heap) (L : Addr) (s : Shared) (rest : (PySem.Str → Option Value) → Led → Prop) (Q : Flow → Shared → Prop) (f : Flow) (s₂ : Shared) : Prop :=
  match f with
  | .ret v => Q (.ret v) s₂
  | .brk => Q .next s₂
  | _ => MWEnd h₀ L s rest s₂
theorem MWEnd.intro {h₀ h' : Heap} {L : Addr} {s : Shared} {tk : Nat} {rest : (PySem.Str → Option Value) → Led → Prop} {m' : PySem.Str → Option Value} {all : Led} (F : Fr h₀ L h' m') (N : News h₀ L h' all) (nw' : Led) (sub : ∀ p ∈ nw', p ∈ all) (r : rest m' nw') : MWEnd h₀ L s rest { s with heap := h', toks := tk } :=
  ⟨h', tk, m', nw', rfl, F, newsSub N sub, r⟩
section
variable {prog : PySem.Program} {w : World} {A : Around} {E : Value → Shared → Prop} {s : Shared} {env : Env} {test : PySem.Expr} {body : List Stmt} {Q : Flow → Shared → Prop} {h₀ : Heap}
theorem WhileInd (P : Nat → (PySem.Str → Option Value) → Led → Prop) (hE : PassesOwn (model prog w) A env E)
    (turn : ∀ n m nw, P n m nw → ∀ h tk, Fr h₀ env.locals h m → News h₀ env.locals h nw →
      wpAny (model prog w) A (isTrue test env (eval test env)) (fun b s₂ => WhlIf b (wpAny (model prog w) A (execs body env) (MWPost h₀ env.locals s (fun m' nw' => ∃ n', n' < n ∧ P n' m' nw') Q) E s₂) (wpAny (model prog w) A (execs [] env) Q E s₂)) E { s with heap := h, toks := tk }) :
    ∀ n m nw, P n m nw → ∀ h tk, Fr h₀ env.locals h m → News h₀ env.locals h nw → WhlRest prog w A E env test body [] Q 0 { s with heap := h, toks := tk } := by
  intro n
  induction n using Nat.strongRecOn with
  | ind n ih =>
    intro m nw hP h tk F N
    refine whl_turn (k := 0) hE (wpAny_mono (turn n m nw hP h tk F N) (fun b s₂ hb => ?_) fun _ _ e => e)
    cases b with
    | false => exact hb
    | true =>
      have hb' : wpAny (model prog w) A (execs body env) (MWPost h₀ env.locals s (fun m' nw' => ∃ n', n' < n ∧ P n' m' nw') Q) E s₂ := by
        unfold WhlIf at hb; rw [if_pos rfl] at hb; exact hb
      refine WhlIf.yes rfl (wpAny_mono hb' (fun f s₃ hf => ?_) fun _ _ e => e)
      have go : MWEnd h₀ env.locals s (fun m' nw' => ∃ n', n' < n ∧ P n' m' nw') s₃ → WhlRest prog w A E env test body [] Q 0 s₃ := by
        rintro ⟨h', tk', m', nw', rfl, F', N', n', hn, hP'⟩
        exact ih n' hn m' nw' hP' h' tk' F' N'
      cases f with
      | next => exact go hf
      | cont => exact go hf
      | brk => exact hf
      | ret v => exact hf
theorem WhileStart {pos : Pos} {n : Nat} {m : PySem.Str → Option Value} {nw : Led} (P : Nat → (PySem.Str → Option Value) → Led → Prop) (hE : PassesOwn (model prog w) A env E) (F : Fr h₀ env.locals s.heap m) (N : News h₀ env.locals s.heap nw) (h : P n m nw)
    (turn : ∀ n m nw, P n m nw → ∀ h tk, Fr h₀ env.locals h m → News h₀ env.locals h nw →
      wpAny (model prog w) A (isTrue test env (eval test env)) (fun b s₂ => WhlIf b (wpAny (model prog w) A (execs body env) (MWPost h₀ env.locals s (fun m' nw' => ∃ n', n' < n ∧ P n' m' nw') Q) E s₂) (wpAny (model prog w) A (execs [] env) Q E s₂)) E { s with heap := h, toks := tk }) :
    wpAny (model prog w) A (exec (.While test body [] pos) env) Q E s :=
  whl_start 0 (WhileInd (s := s) P hE turn n m nw h s.heap s.toks F N)
theorem WhileStartQ {pos : Pos} {n : Nat} {m : PySem.Str → Option Value} {nw : Led} (P : Nat → (PySem.Str → Option Value) → Led → Prop) (X : (PySem.Str → Option Value) → Led → Prop) (hE : PassesOwn (model prog w) A env E) (F : Fr h₀ env.locals s.heap m) (N : News h₀ env.locals s.heap nw) (h : P n m nw)
    (turn : ∀ n m nw, P n m nw → ∀ h tk (Qb Qn : Flow → Shared → Prop) (E' : Value → Shared → Prop),
      (∀ {h' tk' m' all}, Fr h₀ env.locals h' m' → News h₀ env.locals h' all → ∀ nw', (∀ p ∈ nw', p ∈ all) → (∃ n', n' < n ∧ P n' m' nw') → Qb .next { s with heap := h', toks := tk' }) →
      (∀ {h' tk' m' all}, Fr h₀ env.locals h' m' → News h₀ env.locals h' all → ∀ nw', (∀ p ∈ nw', p ∈ all) → X m' nw' → Qn .next { s with heap := h', toks := tk' }) → Fr h₀ env.locals h m → News h₀ env.locals h nw →
      wpAny (model prog w) A (isTrue test env (eval test env)) (fun b s₂ => WhlIf b (wpAny (model prog w) A (execs body env) Qb E' s₂) (wpAny (model prog w) A (execs [] env) Qn E' s₂)) E' { s with heap := h, toks := tk })
    (done : ∀ m nw, X m nw → ∀ h tk, Fr h₀ env.locals h m → News h₀ env.locals h nw → Q .next { s with heap := h, toks := tk }) :
    wpAny (model prog w) A (exec (.While test body [] pos) env) Q E s :=
  WhileStart P hE F N h fun n m nw hP h tk F N => turn n m nw hP h tk (MWPost h₀ env.locals s (fun m' nw' => ∃ n', n' < n ∧ P n' m' nw') Q) Q E (fun F N nw' sub r => MWEnd.intro F N nw' sub r) (fun F N nw' sub x => done _ nw' x _ _ F (newsSub N sub)) F N
end
/-- split roads meet again; what comes is told to whoever goes on -/
theorem step_frameW {M : Model} {A : Around} {t : Sem Value} {Q E : Value → Shared → Prop} {s : Shared} {h₀ : Heap} {L : Addr} {m : PySem.Str → Option Value} {nw : Led} (_ : Fr h₀ L s.heap m) (_ : News h₀ L s.heap nw) (W : (Value → Prop) → Prop)
    (k : ∀ Q' : Value → Shared → Prop, (W fun v => ∀ h' tk', Fr h₀ L h' m → News h₀ L h' nw → Q' v { s with heap := h', toks := tk' }) → wpAny M A t Q' E s)
    (h : W fun v => ∀ h' tk', Fr h₀ L h' m → News h₀ L h' nw → Q v { s with heap := h', toks := tk' }) : wpAny M A t Q E s := k Q h
end Mine
end
section
open PySem PySem.W PyProof.Rows PySem.Calls PySem.Spec PyProof.Rows.LCg
namespace Mine
/-- a letter's place in rgb -/
noncomputable def ixOf (c : Nat) : Nat := if c = 114 then 0 else if c = 103 then 1 else 2
section
variable {prog : PySem.Program} {w : World} {A : Around} {E : Value → Shared → Prop} {s : Shared} {Q : Value → Shared → Prop} {t u : Tok}
theorem my_div6 {X : Int} {k : Nat} (hX : X = (k : Int)) (hk : k < 6) (h : Q (.float (hue k) s.toks) { s with toks := s.toks + 1 }) : wpAny (model prog w) A (binaryOp .Div (.int X t) (.int 6 u)) Q E s := by
  subst hX
  have e : Float64.isInf (Float64.ofFrac (decide ((k : Int) < 0) != decide ((6 : Int) < 0)) (k : Int).natAbs (6 : Int).natAbs) = false ∧ Float64.ofFrac (decide ((k : Int) < 0) != decide ((6 : Int) < 0)) (k : Int).natAbs (6 : Int).natAbs = hue k := by
    have hk6 : k = 0 ∨ k = 1 ∨ k = 2 ∨ k = 3 ∨ k = 4 ∨ k = 5 := by omega
    rcases hk6 with rfl | rfl | rfl | rfl | rfl | rfl <;> exact ⟨by decide +kernel, by decide +kernel⟩
  refine AutoIntOps.truediv_2 (by decide) (by rw [e.1]; decide) ?_
  rw [e.2]
  exact h
end
section
variable {prog : PySem.Program} {w : World} {A : Around} {E : Value → Shared → Prop} {s : Shared} {Q : Value → Shared → Prop} {t u : Tok}
theorem my_int_hue {k : Nat} (hk : k < 6) (h : Q (.int (k : Int) s.toks) { s with toks := s.toks + 1 }) : wpAny (model prog w) A (call (.type "int") [.float (Float64.mul (hue k) 4618441417868443648) t]) Q E s := by
  have hk6 : k = 0 ∨ k = 1 ∨ k = 2 ∨ k = 3 ∨ k = 4 ∨ k = 5 := by omega
  rcases hk6 with rfl | rfl | rfl | rfl | rfl | rfl
  · have e : Float64.truncOf false 0 (-1074) = ((0 : Nat) : Int) := by decide +kernel
    exact call_int_float (sg := false) (m := 0) (e := -1074) (by kernel_rfl) (by rw [e]; exact h)
  · have e : Float64.truncOf false 4503599627370496 (-52) = ((1 : Nat) : Int) := by decide +kernel
    exact call_int_float (sg := false) (m := 4503599627370496) (e := -52) (by kernel_rfl) (by rw [e]; exact h)
  · have e : Float64.truncOf false 4503599627370496 (-51) = ((2 : Nat) : Int) := by decide +kernel
    exact call_int_float (sg := false) (m := 4503599627370496) (e := -51) (by kernel_rfl) (by rw [e]; exact h)
  · have e : Float64.truncOf false 6755399441055744 (-51) = ((3 : Nat) : Int) := by decide +kernel
    exact call_int_float (sg := false) (m := 6755399441055744) (e := -51) (by kernel_rfl) (by rw [e]; exact h)
  · have e : Float64.truncOf false 4503599627370496 (-50) = ((4 : Nat) : Int) := by decide +kernel
    exact call_int_float (sg := false) (m := 4503599627370496) (e := -50) (by kernel_rfl) (by rw [e]; exact h)
  · have e : Float64.truncOf false 5629499534213120 (-50) = ((5 : Nat) : Int) := by decide +kernel
    exact call_int_float (sg := false) (m := 5629499534213120) (e := -50) (by kernel_rfl) (by rw [e]; exact h)
end
theorem one_beq (a b : Nat) : ((⟨#[a]⟩ : PySem.Str) == ⟨#[b]⟩) = decide (a = b) := by
  by_cases h : a = b
  · subst h; simp
  · rw [decide_eq_false h]
    refine beq_eq_false_iff_ne.mpr fun e => h ?_
    have := congrArg (fun s : PySem.Str => s.cps.toList) e
    simpa using this
theorem my_eq1 {prog : PySem.Program} {w : World} {A : Around} {E : Value → Shared → Prop} {s : Shared} {Q : Value → Shared → Prop} {t u : Tok} {a b : Nat} (h : Q (.bool (decide (a = b))) s) : wpAny (model prog w) A (compareOp .Eq (.str ⟨#[a]⟩ t) (.str ⟨#[b]⟩ u)) Q E s := by
  refine eq_str ?_
  rw [one_beq]; exact h
section
variable {prog : PySem.Program} {w : World} {A : Around} {E : Value → Shared → Prop} {s : Shared} {Q : Value → Shared → Prop} {t u : Tok} {a b : UInt64} {m n : Int}
theorem cl_divff (h1 : ¬Float64.isZero b = true) (h : Q (.float (Float64.div a b) s.toks) { s with toks := s.toks + 1 }) : wpAny (model prog w) A (binaryOp .Div (.float a t) (.float b u)) Q E s := AutoFloatOps.truediv_1 h1 h
theorem cl_modff (h1 : ¬Float64.isZero b = true) (h : Q (.float (Float64.divmod a b).snd s.toks) { s with toks := s.toks + 1 }) : wpAny (model prog w) A (binaryOp .Mod (.float a t) (.float b u)) Q E s := AutoFloatOps.mod_1 h1 h
theorem cl_subfi (h1 : ¬Float64.isInf (Float64.ofInt n) = true) (h : Q (.float (Float64.sub a (Float64.ofInt n)) s.toks) { s with toks := s.toks + 1 }) : wpAny (model prog w) A (binaryOp .Sub (.float a t) (.int n u)) Q E s := AutoFloatOps.sub_fi_1 h1 h
end
theorem off1_mem {D : Addr} : ∀ {l : Led}, Off1 D l → ∀ z ∈ l, z.1 ≠ D
  | [], _, _, h => nomatch h
  | _ :: _, x, z, h => by
    rcases List.mem_cons.mp h with rfl | h
    · exact x.1
    · exact off1_mem x.2 z h
section
variable {I Lc : Addr} {tn : Nat} {tt : Tok} {news : Led} {R : Int × Int × Int} {m : PySem.Str → Option Value} {nw : Led}
end
section
variable {fx : Led} {tn : Nat} {tt : Tok} {dr : Value} {R : Int × Int} {m : PySem.Str → Option Value} {nw : Led}
end
theorem inf_k {k : Nat} (hk : k < 6) : ¬ Float64.isInf (Float64.ofInt (k : Int)) = true := by
  have hk6 : k = 0 ∨ k = 1 ∨ k = 2 ∨ k = 3 ∨ k = 4 ∨ k = 5 := by omega
  rcases hk6 with rfl | rfl | rfl | rfl | rfl | rfl <;> decide +kernel
section
variable {prog : PySem.Program} {w : World} {A : Around} {E : Value → Shared → Prop} {s : Shared} {h₀ : Heap} {L : Addr} {m : PySem.Str → Option Value} {news : Led} {Q : Value → Shared → Prop} {x y z : Int} {t u v : Tok}
end
section
variable {prog : PySem.Program} {w : World} {A : Around} {E : Value → Shared → Prop} {s : Shared} {Q : Value → Shared → Prop} {t u : Tok} {c : Nat}
theorem my_findL (hc : c = 114 ∨ c = 103 ∨ c = 98) (h : ∀ t' k, Q (.int ((ixOf c : Nat) : Int) t') { s with toks := k }) : wpAny (model prog w) A (call (.builtin "str.find") [.str (PySem.Str.ofString "rgb") t, .str ⟨#[c]⟩ u]) Q E s := by
  refine PySem.SC.find ?_
  have e : (Txt.find (PySem.Str.ofString "rgb") ⟨#[c]⟩ : Int) = ((ixOf c : Nat) : Int) := by
    rcases hc with rfl | rfl | rfl <;> decide +kernel
  rw [e]
  exact h _ _
end
section
variable {I Lc : Addr} {tn : Nat} {tt : Tok} {news : Led} {R : Int × Int × Int} {m : PySem.Str → Option Value} {wv : Int} {p : Int × Int × Int} {D : Addr} {cD : Nat} {u0 u1 u2 tw : Tok} {o : Obj} {j : Nat}
end
end Mine
end
section
open PySem PySem.W PyProof.Rows PySem.Calls PySem.Spec PyProof.Rows.LCg
namespace Mine
section
variable {prog : PySem.Program} {w : World} {A : Around} {E : Value → Shared → Prop} {s : Shared} {h₀ : Heap} {L a c P : Addr} {m mg mb : PySem.Str → Option Value} {cn : PySem.Str} {cs : Scope} {ccd : Value} {cl : List (PySem.Str × Addr)} {rest T0 : Led} {name qual : PySem.Str} {params : Arguments} {body : List Stmt} {scope : Scope} {pos : Pos} {firstLine : Nat} {clos : List (PySem.Str × Addr)} {p : PySem.Program} {loose : List PySem.Str} {mean : ExcName → Option Value} {o : Obj} {nm : PySem.Str} {Q : Value → Shared → Prop}
/-- a def within a def, its code made now or found in the table -/
theorem nestW (F : Fr h₀ L s.heap m) (N : News h₀ L s.heap ((P, o) :: rest)) (T : Top p loose mean mg mb h₀) (C : CodeHd h₀ c P) (hcd : ccd = .ref c) (hT : TabIs pos.line pos.col nm o T0) (hs0 : ∀ q ∈ T0, q ∈ rest) (hP : ∀ q ∈ rest, q.1 ≠ P) (hq : qual = nm)
    (hcl : closureFor scope (envX cn cs L a ccd cl) = pure clos)
    (h : ∀ f c' oc vs t ctv doc o9 ext h' tk, TabIs pos.line pos.col nm o9 (ext ++ T0) → (c', oc) ∈ ext ++ T0 → oc.data = .fields vs → vs[1]? = some (.str qual t) → (∀ q ∈ (P, o9) :: (ext ++ rest), q.1 < f) → (∀ q ∈ ext, ∀ z ∈ (P, o9) :: rest, z.1 < q.1) → Fr h₀ L h' m →
      News h₀ L h' ((f, fnMade name qual params body scope clos doc ((mg (PySem.Str.ofString "__name__")).getD .none) c' ctv) :: (P, o9) :: (ext ++ rest)) → Q (.ref f) { s with heap := h', toks := tk }) :
    wpAny (model prog w) A (makeFunction name qual params (.stmts body) scope (envX cn cs L a ccd cl) [] [] [] pos firstLine) Q E s := by
  subst hq
  rcases hT with rfl | ⟨c0, oc0, vs0, t0, rfl, hm, hd, hv⟩
  · refine nest_K F N T C hcd (.head hP) (by constructor) rfl hcl fun f c' oc vs t ctv doc h' tk F' N' hd hv hc hf => ?_
    refine h f c' oc vs t ctv doc _ [(c', oc)] h' tk (.inr ⟨c', oc, vs, t, rfl, .head _, hd, hv⟩) (.head _) hd hv ?_ ?_ F' (newsSub N' ?_)
    · intro q hq
      rcases List.mem_cons.mp hq with rfl | hq
      · exact Nat.lt_trans (hc (P, tabObj #[]) (.head _)) hf
      · rcases List.mem_cons.mp hq with rfl | hq
        · exact hf
        · exact Nat.lt_trans (hc _ (.tail _ hq)) hf
    · intro q hq z hz
      rcases List.mem_cons.mp hq with rfl | hq
      · rcases List.mem_cons.mp hz with rfl | hz
        · exact hc (P, tabObj #[]) (.head _)
        · exact hc _ (.tail _ hz)
      · cases hq
    · intro q hq
      simp only [List.mem_cons, List.mem_append, List.not_mem_nil, or_false] at hq ⊢
      grind
  · refine nestHit_K (c' := c0) F N T C hcd (.head _) (by constructor) ?_ hcl fun f ctv doc h' tk F' N' hf => ?_
    · simp [codeAmong, rawInt]
    · exact h f c0 oc0 vs0 t0 ctv doc _ [] h' tk (.inr ⟨c0, oc0, vs0, t0, rfl, hm, hd, hv⟩) hm hd hv hf (List.forall_mem_nil _) F' N'
end
theorem pull5 {h₀ h : Heap} {L : Addr} {x1 x2 x3 x4 x5 y : Addr × Obj} {l : Led} (N : News h₀ L h (x1 :: x2 :: x3 :: x4 :: x5 :: y :: l)) : News h₀ L h (y :: x1 :: x2 :: x3 :: x4 :: x5 :: l) := newsSub N (FMC.all ⟨.tail _ (.tail _ (.tail _ (.tail _ (.tail _ (.head _))))), FMC.all ⟨.head _, FMC.all ⟨.tail _ (.head _), FMC.all ⟨.tail _ (.tail _ (.head _)), FMC.all ⟨.tail _ (.tail _ (.tail _ (.head _))), FMC.all ⟨.tail _ (.tail _ (.tail _ (.tail _ (.head _)))), fun _ h => .tail _ (.tail _ (.tail _ (.tail _ (.tail _ (.tail _ h)))))⟩⟩⟩⟩⟩⟩)
theorem push5 {h₀ h : Heap} {L : Addr} {f x1 x2 x3 x4 x5 y : Addr × Obj} {e l : Led} (N : News h₀ L h (f :: y :: (e ++ x1 :: x2 :: x3 :: x4 :: x5 :: l))) : News h₀ L h (f :: x1 :: x2 :: x3 :: x4 :: x5 :: y :: (e ++ l)) :=
  have a {p : Addr × Obj} (h : p ∈ x1 :: x2 :: x3 :: x4 :: x5 :: l) : p ∈ f :: y :: (e ++ x1 :: x2 :: x3 :: x4 :: x5 :: l) := .tail _ (.tail _ (List.mem_append_right _ h))
  newsSub N (FMC.all ⟨.head _, FMC.all ⟨a (.head _), FMC.all ⟨a (.tail _ (.head _)), FMC.all ⟨a (.tail _ (.tail _ (.head _))), FMC.all ⟨a (.tail _ (.tail _ (.tail _ (.head _)))), FMC.all ⟨a (.tail _ (.tail _ (.tail _ (.tail _ (.head _))))), FMC.all ⟨.tail _ (.head _), fun _ h => (List.mem_append.mp h).elim (fun h => .tail _ (.tail _ (List.mem_append_left _ h))) (fun h => a (.tail _ (.tail _ (.tail _ (.tail _ (.tail _ h))))))⟩⟩⟩⟩⟩⟩⟩)
theorem pull3 {h₀ h : Heap} {L : Addr} {x1 x2 x3 y : Addr × Obj} {l : Led} (N : News h₀ L h (x1 :: x2 :: x3 :: y :: l)) : News h₀ L h (y :: x1 :: x2 :: x3 :: l) := newsSub N (FMC.all ⟨.tail _ (.tail _ (.tail _ (.head _))), FMC.all ⟨.head _, FMC.all ⟨.tail _ (.head _), FMC.all ⟨.tail _ (.tail _ (.head _)), fun _ h => .tail _ (.tail _ (.tail _ (.tail _ h)))⟩⟩⟩⟩)
theorem push3 {h₀ h : Heap} {L : Addr} {f x1 x2 x3 y : Addr × Obj} {e l : Led} (N : News h₀ L h (f :: y :: (e ++ x1 :: x2 :: x3 :: l))) : News h₀ L h (f :: x1 :: x2 :: x3 :: y :: (e ++ l)) :=
  have a {p : Addr × Obj} (h : p ∈ x1 :: x2 :: x3 :: l) : p ∈ f :: y :: (e ++ x1 :: x2 :: x3 :: l) := .tail _ (.tail _ (List.mem_append_right _ h))
  newsSub N (FMC.all ⟨.head _, FMC.all ⟨a (.head _), FMC.all ⟨a (.tail _ (.head _)), FMC.all ⟨a (.tail _ (.tail _ (.head _))), FMC.all ⟨.tail _ (.head _), fun _ h => (List.mem_append.mp h).elim (fun h => .tail _ (.tail _ (List.mem_append_left _ h))) (fun h => a (.tail _ (.tail _ (.tail _ h))))⟩⟩⟩⟩⟩)
end Mine
end
section
open PySem PySem.W PyProof.Rows PySem.Calls PySem.Spec PyProof.Rows.LCg
namespace Mine
/-- a pair of texts, each with its token -/
noncomputable abbrev RPr := (PySem.Str × Tok) × (PySem.Str × Tok)
noncomputable def flatP : List RPr → List Value
  | [] => []
  | p :: r => .str p.1.1 p.1.2 :: .str p.2.1 p.2.2 :: flatP r
noncomputable def repF : List RPr → List Nat → List Nat
  | [], l => l
  | p :: r, l => repF r (replL p.1.1.cps.toList p.2.1.cps.toList l 0)
noncomputable def RepOk : List RPr → PySem.Str → Prop
  | [], _ => True
  | p :: r, x => x.length ≤ 1000 ∧ 1 ≤ p.1.1.length ∧ PySem.Builtin.Str.strKind p.1.1 = 1 ∧ p.2.1.length ≤ 64 ∧ ∀ x' : PySem.Str, x'.cps.toList = replL p.1.1.cps.toList p.2.1.cps.toList x.cps.toList 0 → RepOk r x'
noncomputable def RepP (news : Led) (R : List Nat) (n : Nat) (m : PySem.Str → Option Value) (nw : Led) : Prop :=
  ∀ C : Led → Prop, (∀ (ps : List RPr) (x : PySem.Str) (tx : Tok) (T : Addr), ps.length = n → ps.length ≤ 40 → m (PySem.Str.ofString "text") = some (.str x tx) → m (PySem.Str.ofString "pairs") = some (.ref T) → RepOk ps x → repF ps x.cps.toList = R → (∀ p ∈ news, p.1 ≠ T) →
    C ((T, ({ cls := .type "tuple", data := .seq (flatP ps).toArray } : Obj)) :: news)) → C nw
noncomputable def RepX (news : Led) (R : List Nat) (m : PySem.Str → Option Value) (nw : Led) : Prop :=
  ∀ C : Led → Prop, (∀ (x : PySem.Str) (tx : Tok), m (PySem.Str.ofString "text") = some (.str x tx) → x.cps.toList = R → C news) → C nw
theorem flatP_length : ∀ ps, (flatP ps).length = 2 * ps.length
  | [] => rfl
  | _ :: r => by simp [flatP, flatP_length r]; omega
theorem bind_rest {K : Frag} {S : Setting} {name qual : PySem.Str} {body : List Stmt} {scope : Scope} {doc pm cdv ct : Value} {an : Option Addr} {p1 p2 : Pos} {x y : Value} {vs : List Value} (hl : vs.length ≤ 1000) :
    peek1 K S (bindArgs (fnOf name qual { posonlyargs := [], args := [⟨PySem.Str.ofString "text", none, p1⟩], vararg := some ⟨PySem.Str.ofString "pairs", none, p2⟩, kwonlyargs := [], kw_defaults := [], kwarg := none, defaults := [] } body scope .none .none doc pm an cdv ct) ⟨x :: y :: vs, []⟩) = some (({ cls := .type "tuple", data := .seq (y :: vs).toArray } : Obj), fun D => some [(PySem.Str.ofString "text", x), (PySem.Str.ofString "pairs", .ref D)]) := by
  unfold bindArgs
  dsimp only [fnOf]
  simp only [List.map_nil, List.map_cons, List.nil_append, List.length_cons, List.length_nil]
  have e : (decide (vs.length + 1 + 1 > 0 + 1) && (some (⟨PySem.Str.ofString "pairs", none, p2⟩ : PySem.Arg)).isNone) = false := Bool.and_false _
  rw [e]
  show peek1 K S (newTuple (y :: vs) >>= fun v => pure [(PySem.Str.ofString "text", x), (PySem.Str.ofString "pairs", v)]) = _
  have e2 : ¬ ((y :: vs).toArray.size > sizeLine) := by rw [sizeLine_eq, List.size_toArray, List.length_cons]; omega
  unfold newTuple newObj
  dsimp only
  rw [if_neg e2]
  rfl
theorem seqIx0 (n : Nat) : seqIndex? 0 (n + 1) = some 0 := by
  unfold seqIndex?; simp
theorem seqIx1 (n : Nat) : seqIndex? 1 (n + 1 + 1) = some 1 := by
  unfold seqIndex?; simp; omega
theorem len_ne0 {y : PySem.Str} (h : 1 ≤ y.length) : (y.length == 0) = false := by
  rw [beq_eq_false_iff_ne]; omega
end Mine
end
section
open PySem PySem.W PyProof.Rows PySem.Calls PySem.Spec PyProof.Rows.LCg
open PyProof.V PySem.SeqAt PySem.Flt
namespace Mine
noncomputable def mixH : Nat → UInt64
  | 5 => 0x3FEAAAAAAAAAAAAB | k => hue k
section
variable {prog : PySem.Program} {w : World} {A : Around} {E : Value → Shared → Prop} {s : Shared} {h₀ : Heap} {L : Addr} {m : PySem.Str → Option Value} {news : Led} {Q : Value → Shared → Prop} {a b c v : Value}
theorem max3v (i : Nat) (hh : A.handled = none) (F : Fr h₀ L s.heap m) (N : News h₀ L s.heap news) (ha : NumV a) (hb : NumV b) (hc : NumV c)
    (hi : argBest (fun i j => ltV (#[a, b, c].getD j .none) (#[a, b, c].getD i .none)) 2 = i) (hv : #[a, b, c][i]? = some v)
    (h : ∀ h' tk, Fr h₀ L h' m → News h₀ L h' news → Q v { s with heap := h', toks := tk }) : wpAny (model prog w) A (call (.builtin "max") [a, b, c]) Q E s := by
  have hT : (s.heap.push { cls := .type "tuple", data := .seq #[a, b, c] }).IsTuple s.heap.objs.size #[a, b, c] := ⟨_, Heap.get?_push_size _ rfl, rfl, 0, rfl⟩
  refine call_max_three (wpAny_pyIter_tuple hT ?_)
  have hsz : (s.heap.push { cls := .type "tuple", data := .seq #[a, b, c] }).objs.size = s.heap.objs.size + 1 := Heap.size_push ..
  refine ⟨_, [_, s.heap.objs.size], [_], _, _, _, _, rfl, Walks.tuple (A := A.in1) hh _ s.heap.objs.size (by rw [hsz]; exact Nat.ne_of_lt (Nat.lt_succ_self _)) #[a, b, c],
    ⟨⟨_, Heap.get?_push_size _ rfl, rfl, rfl⟩, hT.push _⟩, fun d hd => ?_, by simp, cmpOf_gt #[a, b, c] (by simp [ha, hb, hc]), fun v' h' tk hP hk => ?_⟩
  · show d < ((s.heap.push _).push _).objs.size
    rw [Heap.size_push, hsz]
    simp only [List.mem_cons, List.not_mem_nil, or_false] at hd
    rcases hd with rfl | rfl
    · rw [hsz]; exact Nat.lt_succ_self _
    · exact Nat.lt_succ_of_lt (Nat.lt_succ_self _)
  · have hold : ∀ d o, s.heap.get? d = some o → h'.get? d = some o := fun d o e => by
      refine hk d o (fun hm => ?_) (Heap.get?_push_of_some _ (Heap.get?_push_of_some _ e))
      have := Heap.lt_size e
      simp only [List.mem_cons, List.not_mem_nil, or_false] at hm
      rw [hm, hsz] at this
      exact Nat.lt_irrefl _ (Nat.lt_of_succ_lt this)
    have e : #[a, b, c][argBest (fun i j => ltV (#[a, b, c].getD j .none) (#[a, b, c].getD i .none)) 2]? = some v' := hP
    rw [hi, hv] at e
    cases e
    exact h h' tk (F.grownK hold) (N.grown hold)
theorem min3v (i : Nat) (hh : A.handled = none) (F : Fr h₀ L s.heap m) (N : News h₀ L s.heap news) (ha : NumV a) (hb : NumV b) (hc : NumV c)
    (hi : argBest (fun i j => ltV (#[a, b, c].getD i .none) (#[a, b, c].getD j .none)) 2 = i) (hv : #[a, b, c][i]? = some v)
    (h : ∀ h' tk, Fr h₀ L h' m → News h₀ L h' news → Q v { s with heap := h', toks := tk }) : wpAny (model prog w) A (call (.builtin "min") [a, b, c]) Q E s := by
  have hT : (s.heap.push { cls := .type "tuple", data := .seq #[a, b, c] }).IsTuple s.heap.objs.size #[a, b, c] := ⟨_, Heap.get?_push_size _ rfl, rfl, 0, rfl⟩
  refine call_min_three (wpAny_pyIter_tuple hT ?_)
  have hsz : (s.heap.push { cls := .type "tuple", data := .seq #[a, b, c] }).objs.size = s.heap.objs.size + 1 := Heap.size_push ..
  refine ⟨_, [_, s.heap.objs.size], [_], _, _, _, _, rfl, Walks.tuple (A := A.in1) hh _ s.heap.objs.size (by rw [hsz]; exact Nat.ne_of_lt (Nat.lt_succ_self _)) #[a, b, c],
    ⟨⟨_, Heap.get?_push_size _ rfl, rfl, rfl⟩, hT.push _⟩, fun d hd => ?_, by simp, cmpOf_lt #[a, b, c] (by simp [ha, hb, hc]), fun v' h' tk hP hk => ?_⟩
  · show d < ((s.heap.push _).push _).objs.size
    rw [Heap.size_push, hsz]
    simp only [List.mem_cons, List.not_mem_nil, or_false] at hd
    rcases hd with rfl | rfl
    · rw [hsz]; exact Nat.lt_succ_self _
    · exact Nat.lt_succ_of_lt (Nat.lt_succ_self _)
  · have hold : ∀ d o, s.heap.get? d = some o → h'.get? d = some o := fun d o e => by
      refine hk d o (fun hm => ?_) (Heap.get?_push_of_some _ (Heap.get?_push_of_some _ e))
      have := Heap.lt_size e
      simp only [List.mem_cons, List.not_mem_nil, or_false] at hm
      rw [hm, hsz] at this
      exact Nat.lt_irrefl _ (Nat.lt_of_succ_lt this)
    have e : #[a, b, c][argBest (fun i j => ltV (#[a, b, c].getD i .none) (#[a, b, c].getD j .none)) 2]? = some v' := hP
    rw [hi, hv] at e
    cases e
    exact h h' tk (F.grownK hold) (N.grown hold)
end
theorem news3f {h₀ h : Heap} {L D : Addr} {x y z x' y' z' : UInt64} {t u v : Tok} {news : Led} (N : News h₀ L h ((D, ({ cls := .type "tuple", data := .seq #[.float x t, .float y u, .float z v] } : Obj)) :: news)) (h1 : x = x') (h2 : y = y') (h3 : z = z') :
    News h₀ L h ((D, tup [.float x' t, .float y' u, .float z' v]) :: news) := by
  subst h1; subst h2; subst h3; exact N
/-- a contract that tells the tokens' range too: lo is the count ahead of the call, hi the count behind it -/
noncomputable def CT (K : World → Frag) (prog : PySem.Program) (w : World) (H : Heap → Prop) (f : Addr) (dd uu : Nat) (news : Led) (vs : List Value) (W : Nat → (Nat → Value → Led → Prop) → Prop) : Prop :=
  ∀ (p : PySem.Program) (loose : List PySem.Str) (mean : ExcName → Option Value) (mg mb : PySem.Str → Option Value) (dp un : Nat) (gd : Option (List Code)) (cn : PySem.Str) (cs : Scope) (L a : Addr) (ccd : Value) (cl : List (PySem.Str × Addr)) (outer : List Env) (A₀ : Around) (base h₀ : Heap) (m : PySem.Str → Option Value) (s : Shared) (Q E : Value → Shared → Prop),
    Below A₀ base outer h₀ → Fr h₀ L s.heap m → (K w).In h₀ → News h₀ L s.heap news → Top p loose mean mg mb h₀ → H base → cs.kind = .function → dp + dd < recursionLimit → un + uu < cLine →
    (W s.toks fun hi v news' => ∀ h', Fr h₀ L h' m → News h₀ L h' news' → Q v { s with heap := h', toks := hi }) →
    wpAny (model prog w) (ktrTop dp un gd cn cs L a ccd cl outer) (call (.ref f) vs) Q E s
theorem CT.use {K : World → Frag} {prog : PySem.Program} {w : World} {H : Heap → Prop} {f : Addr} {dd uu : Nat} {news : Led} {vs : List Value} {W : Nat → (Nat → Value → Led → Prop) → Prop} (C : CT K prog w H f dd uu news vs W) {p : PySem.Program} {loose : List PySem.Str} {mean : ExcName → Option Value} {mg mb : PySem.Str → Option Value} {dp un : Nat} {gd : Option (List Code)} {cn : PySem.Str} {cs : Scope} {L a : Addr} {ccd : Value} {cl : List (PySem.Str × Addr)} {outer : List Env} {A₀ : Around} {base h₀ : Heap} {m : PySem.Str → Option Value} {s : Shared} {Q E : Value → Shared → Prop}
    (B : Below A₀ base outer h₀) (F : Fr h₀ L s.heap m) (X : (K w).In h₀) (N : News h₀ L s.heap news) (T : Top p loose mean mg mb h₀) (hH : H base) (hk : cs.kind = .function) (hd : dp + dd < recursionLimit) (hu : un + uu < cLine)
    (h : W s.toks fun hi v news' => ∀ h', Fr h₀ L h' m → News h₀ L h' news' → Q v { s with heap := h', toks := hi }) :
    wpAny (model prog w) (ktrTop dp un gd cn cs L a ccd cl outer) (call (.ref f) vs) Q E s := C _ _ _ _ _ _ _ _ _ _ _ _ _ _ _ _ _ _ _ _ _ _ B F X N T hH hk hd hu h
section
variable {A : Around} {s : Shared}
theorem EqF {K : Frag} {x y : UInt64} {b : Bool} {t u : Tok} (X : K.In s.heap) (e : nsIn K cStatics sharingNotToldKey = some none) (ht : t ≠ 0) (hu : u ≠ 0) (htu : t = u → x = y) (hx : (Float64.cmp x y == some Ordering.eq) = b) (hs : x = y → b = true) : EqAt A s (.float x t) (.float y u) b := fun prog w E Q h => by
  unfold eqBool
  refine wpAny_holding ?_
  refine wpAny_ite_split (fun hab => ?_) (fun _ => ?_)
  · have e : x = y := by have := eq_of_beq hab; injection this
    have hb := hs e
    subst hb
    exact wpAny_bind (wpAny_rule (wpAny_pure h))
  · dsimp only
    refine wpAny_bind (same_float X e ht hu htu fun c hc => ?_)
    cases c with
    | true =>
      have hb := hs (hc rfl)
      subst hb
      rw [if_pos rfl]; exact wpAny_pure h
    | false =>
      rw [if_neg Bool.false_ne_true]
      refine wpAny_bind (PySem.AutoFloatOps.eq_0 (prog := prog) (w := w) ?_)
      rw [hx]
      exact wpAny_truthy_bool h
/-- a corner's tuple: red, green, blue for 0, 1, 2 -/
noncomputable def colL (k : Nat) : List UInt64 := [(rgbOf (2 * k)).1, (rgbOf (2 * k)).2.1, (rgbOf (2 * k)).2.2]
noncomputable abbrev colO (k : Nat) (t u v : Tok) : Obj := tup [.float (rgbOf (2 * k)).1 t, .float (rgbOf (2 * k)).2.1 u, .float (rgbOf (2 * k)).2.2 v]
noncomputable def cmpC (i j : Nat) : Bool := (List.range 3).all fun n => decide ((colL i).getD n 0 = (colL j).getD n 0)
theorem cmpC_eq {i j : Nat} (hi : i < 3) (hj : j < 3) : cmpC i j = decide (i = j) := by
  have h3 : i = 0 ∨ i = 1 ∨ i = 2 := by omega
  have k3 : j = 0 ∨ j = 1 ∨ j = 2 := by omega
  rcases h3 with rfl | rfl | rfl <;> rcases k3 with rfl | rfl | rfl <;> decide +kernel
theorem eqf01 {x y : UInt64} (hx : x = f0 ∨ x = f1) (hy : y = f0 ∨ y = f1) : (Float64.cmp x y == some Ordering.eq) = decide (x = y) := by
  rcases hx with rfl | rfl <;> rcases hy with rfl | rfl <;> decide +kernel
theorem col01 {k : Nat} (hk : k < 3) : ((rgbOf (2 * k)).1 = f0 ∨ (rgbOf (2 * k)).1 = f1) ∧ ((rgbOf (2 * k)).2.1 = f0 ∨ (rgbOf (2 * k)).2.1 = f1) ∧ ((rgbOf (2 * k)).2.2 = f0 ∨ (rgbOf (2 * k)).2.2 = f1) := by
  have h3 : k = 0 ∨ k = 1 ∨ k = 2 := by omega
  rcases h3 with rfl | rfl | rfl <;> decide
variable {K : Frag} {h₀ : Heap} {L a b : Addr} {news : Led} {i j : Nat} {t u v t' u' v' : Tok}
theorem EqF1 {x y : UInt64} (X : K.In s.heap) (e : nsIn K cStatics sharingNotToldKey = some none) (hx : x = f0 ∨ x = f1) (hy : y = f0 ∨ y = f1) (ht : t ≠ 0) (hu : u ≠ 0) (htu : x ≠ y → t ≠ u) : EqAt A s (.float x t) (.float y u) (decide (x = y)) :=
  EqF X e ht hu (fun h => Classical.byContradiction fun c => htu c h) (eqf01 hx hy) fun h => decide_eq_true h
/-- what two colours' tokens must keep: none is 0, and unlike colours have unlike ones -/
noncomputable def TokOk (i j : Nat) (t u v t' u' v' : Tok) : Prop := t ≠ 0 ∧ u ≠ 0 ∧ v ≠ 0 ∧ t' ≠ 0 ∧ u' ≠ 0 ∧ v' ≠ 0 ∧ (i ≠ j → t ≠ t' ∧ u ≠ u' ∧ v ≠ v')
theorem col_elem (X : K.In s.heap) (e : nsIn K cStatics sharingNotToldKey = some none) (hi : i < 3) (hj : j < 3) (ok : TokOk i j t u v t' u' v') (n : Nat)
    (h1 : n < (#[Value.float (rgbOf (2 * i)).1 t, .float (rgbOf (2 * i)).2.1 u, .float (rgbOf (2 * i)).2.2 v] : Array Value).size) (h2 : n < (#[Value.float (rgbOf (2 * j)).1 t', .float (rgbOf (2 * j)).2.1 u', .float (rgbOf (2 * j)).2.2 v'] : Array Value).size) :
    EqAt A s (#[Value.float (rgbOf (2 * i)).1 t, .float (rgbOf (2 * i)).2.1 u, .float (rgbOf (2 * i)).2.2 v] : Array Value)[n] (#[Value.float (rgbOf (2 * j)).1 t', .float (rgbOf (2 * j)).2.1 u', .float (rgbOf (2 * j)).2.2 v'] : Array Value)[n]
      (decide ((colL i).getD n 0 = (colL j).getD n 0)) := by
  obtain ⟨o1, o2, o3, o4, o5, o6, o7⟩ := ok
  have ne : ∀ {f : Nat → UInt64}, f i ≠ f j → i ≠ j := fun {f} h e => h (by rw [e])
  match n, h1 with
  | 0, _ => exact EqF1 X e (col01 hi).1 (col01 hj).1 o1 o4 fun h => (o7 (ne (f := fun k => (rgbOf (2 * k)).1) h)).1
  | 1, _ => exact EqF1 X e (col01 hi).2.1 (col01 hj).2.1 o2 o5 fun h => (o7 (ne (f := fun k => (rgbOf (2 * k)).2.1) h)).2.1
  | 2, _ => exact EqF1 X e (col01 hi).2.2 (col01 hj).2.2 o3 o6 fun h => (o7 (ne (f := fun k => (rgbOf (2 * k)).2.2) h)).2.2
theorem isTup_of {h : Heap} {vs : List Value} (N : News h₀ L h news) (hm : (a, tup vs) ∈ news) : h.IsTuple a vs.toArray := ⟨_, (N _ hm).1, rfl, 0, rfl⟩
theorem isList_of {h : Heap} {vs : List Value} {n : Nat} (N : News h₀ L h news) (hm : (a, W.listOf vs.toArray n) ∈ news) : h.IsList a vs.toArray := ⟨_, (N _ hm).1, rfl, n, rfl⟩
theorem col_rc (X : K.In s.heap) (e : nsIn K cStatics sharingNotToldKey = some none) (N : News h₀ L s.heap news) (ha : (a, colO i t u v) ∈ news) (hb : (b, colO j t' u' v') ∈ news) (hi : i < 3) (hj : j < 3) (ok : TokOk i j t u v t' u' v') (hu : A.units < cLine) : RcAt A s (.ref a) (.ref b) (decide (i = j)) := by
  have h : RcAt A s (.ref a) (.ref b) (cmpC i j && true) := RcAt.tuples (A := A) (isTup_of N ha) (isTup_of N hb) hu (col_elem X e hi hj ok)
  rwa [Bool.and_true, cmpC_eq hi hj] at h
end
section
variable {prog : PySem.Program} {w : World} {A : Around} {E : Value → Shared → Prop} {s : Shared} {h₀ : Heap} {L a b : Addr} {news : Led} {Q : Value → Shared → Prop} {i j : Nat} {K : Frag} {t u v t' u' v' : Tok}
theorem eq_col (X : K.In s.heap) (e : nsIn K cStatics sharingNotToldKey = some none) (N : News h₀ L s.heap news) (ha : (a, colO i t u v) ∈ news) (hb : (b, colO j t' u' v') ∈ news) (hi : i < 3) (hj : j < 3) (ok : TokOk i j t u v t' u' v') (hu : A.units < cLine) (h : Q (.bool (decide (i = j))) s) : wpAny (model prog w) A (compareOp .Eq (.ref a) (.ref b)) Q E s :=
  col_rc X e N ha hb hi hj ok hu prog w E Q h
end
/-- the mixture of two corners: its place among the sums, and the corner that _law_mixed makes of it -/
noncomputable def mixIx (i j : Nat) : Nat := if i = j then 2 * i else match i + j with | 1 => 1 | 2 => 5 | _ => 3
noncomputable def mixK (i j : Nat) : Nat := if i = j then i else 3 - i - j
theorem lt3 {i : Nat} (h : i < 3) : i = 0 ∨ i = 1 ∨ i = 2 := by omega
theorem all33 {P : Nat → Nat → Prop} (h : P 0 0 ∧ P 0 1 ∧ P 0 2 ∧ P 1 0 ∧ P 1 1 ∧ P 1 2 ∧ P 2 0 ∧ P 2 1 ∧ P 2 2) {i j : Nat} (hi : i < 3) (hj : j < 3) : P i j := by
  obtain ⟨a, b, c, d, e, f, g, k, l⟩ := h
  rcases lt3 hi with rfl | rfl | rfl <;> rcases lt3 hj with rfl | rfl | rfl <;> assumption
theorem mixIx_lt {i j : Nat} (hi : i < 3) (hj : j < 3) : mixIx i j < 6 := all33 (P := fun i j => mixIx i j < 6) (by decide +kernel) hi hj
theorem mixK_lt {i j : Nat} (hi : i < 3) (hj : j < 3) : mixK i j < 3 := all33 (P := fun i j => mixK i j < 3) (by decide +kernel) hi hj
theorem my_int_mix {prog : PySem.Program} {w : World} {A : Around} {E : Value → Shared → Prop} {s : Shared} {Q : Value → Shared → Prop} {t : Tok} {k : Nat} (hk : k < 6) (h : Q (.int (k : Int) s.toks) { s with toks := s.toks + 1 }) : wpAny (model prog w) A (call (.type "int") [.float (Float64.mul (mixH k) 4618441417868443648) t]) Q E s := by
  have hk6 : k = 0 ∨ k = 1 ∨ k = 2 ∨ k = 3 ∨ k = 4 ∨ k = 5 := by omega
  rcases hk6 with rfl | rfl | rfl | rfl | rfl | rfl
  · exact my_int_hue (k := 0) (by decide) h
  · exact my_int_hue (k := 1) (by decide) h
  · exact my_int_hue (k := 2) (by decide) h
  · exact my_int_hue (k := 3) (by decide) h
  · exact my_int_hue (k := 4) (by decide) h
  · exact my_int_hue (k := 5) (by decide) h
theorem tokBd {lo n k x t : Nat} (h : x = t ∨ n ≤ x ∧ x < k) (q : lo ≤ t ∧ t < n) (r : n ≤ k) : lo ≤ x ∧ x < k := by
  rcases h with rfl | h
  · exact ⟨q.1, Nat.lt_of_lt_of_le q.2 r⟩
  · exact ⟨Nat.le_trans q.1 (Nat.le_trans (Nat.le_of_lt q.2) h.1), h.2⟩
end Mine
end
section
open PySem PySem.W PyProof.Rows PySem.Calls PySem.Spec PyProof.Rows.LCg
open PyProof.V PySem.SeqAt PySem.Flt
namespace Mine
section
variable {prog : PySem.Program} {w : World} {A : Around} {E : Value → Shared → Prop} {s : Shared} {h₀ : Heap} {L : Addr} {m : PySem.Str → Option Value} {news : Led} {Q : Value → Shared → Prop}
theorem maxRgb {k : Nat} (hk : k < 6) {t u v : Tok} (hh : A.handled = none) (F : Fr h₀ L s.heap m) (N : News h₀ L s.heap news)
    (h : ∀ h' tk x, Fr h₀ L h' m → News h₀ L h' news → Q (.float f1 x) { s with heap := h', toks := tk }) :
    wpAny (model prog w) A (call (.builtin "max") [.float (rgbOf k).1 t, .float (rgbOf k).2.1 u, .float (rgbOf k).2.2 v]) Q E s := by
  have hk6 : k = 0 ∨ k = 1 ∨ k = 2 ∨ k = 3 ∨ k = 4 ∨ k = 5 := by omega
  rcases hk6 with rfl | rfl | rfl | rfl | rfl | rfl
  · exact max3v 0 hh F N (.float ..) (.float ..) (.float ..) (by kernel_rfl) rfl fun h' tk => h h' tk _
  · exact max3v 0 hh F N (.float ..) (.float ..) (.float ..) (by kernel_rfl) rfl fun h' tk => h h' tk _
  · exact max3v 1 hh F N (.float ..) (.float ..) (.float ..) (by kernel_rfl) rfl fun h' tk => h h' tk _
  · exact max3v 1 hh F N (.float ..) (.float ..) (.float ..) (by kernel_rfl) rfl fun h' tk => h h' tk _
  · exact max3v 2 hh F N (.float ..) (.float ..) (.float ..) (by kernel_rfl) rfl fun h' tk => h h' tk _
  · exact max3v 0 hh F N (.float ..) (.float ..) (.float ..) (by kernel_rfl) rfl fun h' tk => h h' tk _
theorem minRgb {k : Nat} (hk : k < 6) {t u v : Tok} (hh : A.handled = none) (F : Fr h₀ L s.heap m) (N : News h₀ L s.heap news)
    (h : ∀ h' tk x, Fr h₀ L h' m → News h₀ L h' news → Q (.float f0 x) { s with heap := h', toks := tk }) :
    wpAny (model prog w) A (call (.builtin "min") [.float (rgbOf k).1 t, .float (rgbOf k).2.1 u, .float (rgbOf k).2.2 v]) Q E s := by
  have hk6 : k = 0 ∨ k = 1 ∨ k = 2 ∨ k = 3 ∨ k = 4 ∨ k = 5 := by omega
  rcases hk6 with rfl | rfl | rfl | rfl | rfl | rfl
  · exact min3v 1 hh F N (.float ..) (.float ..) (.float ..) (by kernel_rfl) rfl fun h' tk => h h' tk _
  · exact min3v 2 hh F N (.float ..) (.float ..) (.float ..) (by kernel_rfl) rfl fun h' tk => h h' tk _
  · exact min3v 0 hh F N (.float ..) (.float ..) (.float ..) (by kernel_rfl) rfl fun h' tk => h h' tk _
  · exact min3v 0 hh F N (.float ..) (.float ..) (.float ..) (by kernel_rfl) rfl fun h' tk => h h' tk _
  · exact min3v 0 hh F N (.float ..) (.float ..) (.float ..) (by kernel_rfl) rfl fun h' tk => h h' tk _
  · exact min3v 1 hh F N (.float ..) (.float ..) (.float ..) (by kernel_rfl) rfl fun h' tk => h h' tk _
end
end Mine
end
section
open PySem PySem.W PyProof.Rows PySem.Calls PySem.Spec PyProof.Rows.LCg
namespace Mine
end Mine
end
section
open PySem PySem.W PyProof.Rows PySem.Calls PySem.Spec PyProof.Rows.LCg
namespace Mine
noncomputable def letN : Nat → Nat
  | 0 => 114 | 1 => 103 | _ => 98
noncomputable def lets (r : List Nat) : List Nat := r.map letN
noncomputable abbrev strL (l : List Nat) : PySem.Str := ⟨(lets l).toArray⟩
theorem cps_eq {x : PySem.Str} {l : List Nat} (h : x.cps.toList = l) : x = ⟨l.toArray⟩ := by
  cases x with | mk c => rw [← h]
end Mine
end
section
open PySem PySem.W PyProof.Rows PySem.Calls PySem.Spec PyProof.Rows.LCg
open PyProof.V
namespace Mine
section
variable {prog : PySem.Program} {w : World} {A : Around} {h₀ : Heap} {L : Addr} {m : PySem.Str → Option Value} {env : Env} {elt : PySem.Expr} {nm : PySem.Str} {scope : Scope} {cl : List (PySem.Str × Addr)} {s : Shared} {news : Led}
variable {a b : PySem.Str} {i0 : Led → Prop} {keep : Led} {Fin : Nat → List Value → Led → Prop}
/-- a comprehension over two lists of numbers, side by side -/
theorem mrest_ints (f : Int → Int → Int) (n₀ : Nat)
    (turn : ∀ x y t u its C oC D m₂ ys h tk (E' : Value → Shared → Prop), n₀ ≤ tk → i0 its → LCg.NsObj oC m₂ → m₂ a = some (.int x t) → m₂ b = some (.int y u) → Fr h₀ L h m → News h₀ L h ((C, oC) :: (D, LCg.lst ys) :: (news ++ its)) →
      (∀ q ∈ news, q.1 ≠ C ∧ q.1 ≠ D) → (∀ q ∈ news, ∀ z ∈ its, q.1 ≠ z.1) → (∀ q ∈ its, q.1 ≠ C ∧ q.1 ≠ D) → (@Ne Nat C D) →
      wpAny (model prog w) A (eval elt (compEnvC scope cl C env)) (MEnd h₀ L m { s with heap := h, toks := tk } C oC D (LCg.lst ys) its keep (fun k z news' => news' = news ∧ n₀ ≤ k ∧ ∃ t, z = .int (f x y) t)) E' { s with heap := h, toks := tk }) :
    ∀ (v1 v2 : List Value) (l1 l2 : List Int) (ys : List Value) (ns : List Int) (n : Nat), n₀ ≤ n → IntsAre v1 l1 → IntsAre v2 l2 → IntsAre ys ns →
      (∀ (n' : Nat) (zs : List Value), n₀ ≤ n' → IntsAre zs (ns ++ List.zipWith f l1 l2) → Fin n' zs news) →
      MRest prog w A h₀ L m env none elt a b scope cl s i0 keep Fin ((fixed v1).zip (fixed v2)) n ys news := by
  have stop : ∀ (ys : List Value) (ns : List Int) (n : Nat), n₀ ≤ n → IntsAre ys ns → (∀ (n' : Nat) (zs : List Value), n₀ ≤ n' → IntsAre zs (ns ++ []) → Fin n' zs news) → MRest prog w A h₀ L m env none elt a b scope cl s i0 keep Fin [] n ys news :=
    fun ys ns n hn hy fin => MRest.nil (fin n ys hn (by rw [List.append_nil]; exact hy))
  intro v1
  induction v1 with
  | nil =>
    intro v2 l1 l2 ys ns n hn h1 h2 hy fin
    cases h1
    exact stop ys ns n hn hy fin
  | cons p r ih =>
    intro v2 l1 l2 ys ns n hn h1 h2 hy fin
    cases h1 with
    | cons x t h1 =>
      cases h2 with
      | nil => exact stop ys ns n hn hy fin
      | cons y u h2 =>
        refine MRest.cons ?_
        intro t' u' its C oC D m₂ h tk E' hk hi hC ha hb F N off offI offC ne
        refine wpAny_mono (turn x y t u its C oC D m₂ ys h tk E' (Nat.le_trans hn hk) hi hC ha hb F N off offI offC ne) (fun z s₂ hq => ?_) fun _ _ e => e
        intro G k
        refine hq G ?_
        intro h' tk' news' e F' N' o1 o2 hkp hr
        obtain ⟨rfl, hk', t9, rfl⟩ := hr
        refine k h' tk' _ e F' N' o1 o2 hkp ?_
        refine ih _ _ _ _ (ns ++ [f x y]) tk' hk' h1 h2 (intsSnoc hy) ?_
        intro n' zs hn' hz
        refine fin n' zs hn' ?_
        rw [List.append_assoc] at hz
        exact hz
where
  intsSnoc {y : Int} {t : Tok} : ∀ {vs : List Value} {ys : List Int}, IntsAre vs ys → IntsAre (vs ++ [.int y t]) (ys ++ [y])
  | _, _, .nil => .cons y t .nil
  | _, _, .cons z u r => .cons z u (intsSnoc r)
end
end Mine
end
section
open PySem PySem.W PyProof.Rows PySem.Calls PySem.Spec PyProof.Rows.LCg
open PyProof.V PySem.SeqAt
namespace Mine
/-- values that are rows of the ledger -/
noncomputable def RowsAre (led : Led) : List Value → List (List Nat) → Prop
  | [], [] => True
  | v :: vs, r :: rs => (∃ a ws k, v = .ref a ∧ (a, W.listOf ws.toArray k) ∈ led ∧ IntsAre ws (castL r)) ∧ RowsAre led vs rs
  | _, _ => False
theorem RowsAre.mono {led led' : Led} (h : ∀ p ∈ led, p ∈ led') : ∀ {vs : List Value} {rs : List (List Nat)}, RowsAre led vs rs → RowsAre led' vs rs
  | [], [], _ => True.intro
  | _ :: _, _ :: _, ⟨⟨a, ws, k, e, hm, hi⟩, r⟩ => ⟨⟨a, ws, k, e, h _ hm, hi⟩, RowsAre.mono h r⟩
  | [], _ :: _, x => x.elim
  | _ :: _, [], x => x.elim
theorem RowsAre.snoc {led : Led} {a : Addr} {ws : List Value} {k : Nat} {q : List Nat} (hm : (a, W.listOf ws.toArray k) ∈ led) (hi : IntsAre ws (castL q)) : ∀ {vs : List Value} {rs : List (List Nat)}, RowsAre led vs rs → RowsAre led (vs ++ [.ref a]) (rs ++ [q])
  | [], [], _ => ⟨⟨a, ws, k, rfl, hm, hi⟩, True.intro⟩
  | _ :: _, _ :: _, ⟨h, r⟩ => ⟨h, RowsAre.snoc hm hi r⟩
  | [], _ :: _, x => x.elim
  | _ :: _, [], x => x.elim
theorem RowsAre.len {led : Led} : ∀ {vs : List Value} {rs : List (List Nat)}, RowsAre led vs rs → vs.length = rs.length
  | [], [], _ => rfl
  | _ :: _, _ :: _, ⟨_, r⟩ => by rw [List.length_cons, List.length_cons, RowsAre.len r]
  | [], _ :: _, x => x.elim
  | _ :: _, [], x => x.elim
section
variable {prog : PySem.Program} {w : World} {A : Around} {E : Value → Shared → Prop} {s : Shared} {h₀ : Heap} {L : Addr} {m : PySem.Str → Option Value} {news : Led} {Q : Value → Shared → Prop}
theorem my_last {value slice : PySem.Expr} {a : Addr} {vs : List Value} {n : Nat} {u : Tok} {x : Value} (N : News h₀ L s.heap news) (hm : (a, W.listOf vs.toArray n) ∈ news) (hx : vs[vs.length - 1]? = some x) (h0 : 0 < vs.length) (h : Q x s)
    (hs : subscripted slice false (.ref a) (.int (-1) u) = operate [.ref a, .int (-1) u] (getItem (.ref a) (.int (-1) u)) := by with_unfolding_all rfl) (hg : ∀ r, letTemporaryGo value (.ref a) r = pure () := by intro _; with_unfolding_all rfl) :
    wpAny (model prog w) A (subscriptTail value slice (.ref a) (.int (-1) u)) Q E s := by
  have hl := isList_of N hm
  refine subscriptTail_builtin hl.typeIs slot_list_getitem.lookup (wpAny_getItem_list_neg hl (by decide) ?_ (by decide) ?_ h) hs hg
  · rw [List.size_toArray]; omega
  · rw [List.size_toArray, show ((-1 : Int) + (vs.length : Int)).toNat = vs.length - 1 by rw [Int.add_comm]; exact Int.toNat_sub vs.length 1, List.getElem?_toArray]; exact hx
theorem my_at {value slice : PySem.Expr} {a : Addr} {vs : List Value} {n : Nat} {k : Int} {u : Tok} {x : Value} (N : News h₀ L s.heap news) (hm : (a, W.listOf vs.toArray n) ∈ news) (h0 : 0 ≤ k) (h1 : k < 2 ^ 63) (hx : vs[k.toNat]? = some x) (h : Q x s)
    (hs : subscripted slice false (.ref a) (.int k u) = operate [.ref a, .int k u] (getItem (.ref a) (.int k u)) := by with_unfolding_all rfl) (hg : ∀ r, letTemporaryGo value (.ref a) r = pure () := by intro _; with_unfolding_all rfl) :
    wpAny (model prog w) A (subscriptTail value slice (.ref a) (.int k u)) Q E s := item_listL (isList_of N hm) h0 h1 hx h hs hg
end
section
variable {prog : PySem.Program} {w : World} {A : Around} {h₀ : Heap} {L : Addr} {m : PySem.Str → Option Value} {env : Env} {elt : PySem.Expr} {nm : PySem.Str} {scope : Scope} {cl : List (PySem.Str × Addr)} {s : Shared} {news : Led}
end
theorem strs_idx : ∀ {ys : List Value} {rs : List PySem.Str}, ys.length = rs.length → (∀ (i : Nat) (y : Value), ys[i]? = some y → ∃ (q : PySem.Str) (t : Tok), rs[i]? = some q ∧ y = Value.str q t) → StrsAre ys rs
  | [], [], _, _ => .nil
  | [], _ :: _, h, _ => by cases h
  | _ :: _, [], h, _ => by cases h
  | y :: ys, q :: rs, h, hy => by
    obtain ⟨q', t, e1, e2⟩ := hy 0 y rfl
    cases e1
    subst e2
    exact .cons _ t (strs_idx (Nat.succ.inj h) fun i y hi => hy (i + 1) y hi)
noncomputable def letJ (k : Int) : PySem.Str := ⟨#[letN k.toNat]⟩
theorem join_letJ : ∀ l : List Int, (PySem.Str.join (PySem.Str.ofString "") (l.map letJ)).cps.toList = l.map fun k => letN k.toNat
  | [] => rfl
  | [a] => rfl
  | a :: b :: r => by
    have h := join_letJ (b :: r)
    rw [List.map_cons, join_list2 _ _ _ (by simp), h]
    rfl
theorem join_lets (q : List Nat) : Txt.join (PySem.Str.ofString "") ((castL q).map letJ) = strL q := by
  refine cps_eq ?_
  show (PySem.Builtin.Str.glued _ _).cps.toList = _
  rw [StrLaws.glued_eq_join, join_letJ, List.map_map]
  rfl
section
variable {prog : PySem.Program} {w : World} {A : Around} {E : Value → Shared → Prop} {s : Shared} {h₀ : Heap} {L a b : Addr} {news : Led} {Q : Value → Shared → Prop}
end
end Mine
end
section
open PySem PySem.W PyProof.Rows PySem.Calls PySem.Spec
namespace Mine
end Mine
end
section
open PySem PySem.W PyProof.Rows PySem.Calls PySem.Spec
namespace Mine
section
variable {prog : PySem.Program} {w : World} {A : Around} {E : Value → Shared → Prop} {s : Shared} {env : Env} {h₀ : Heap} {x : PySem.Str} {body : List Stmt} {Q : Flow → Shared → Prop}
end
end Mine
end
section
open PySem PySem.W PyProof.Rows PySem.Calls PySem.Spec
namespace Mine
section
variable {prog : PySem.Program} {w : World} {A : Around} {E : Value → Shared → Prop} {s : Shared} {env : Env} {h₀ : Heap} {x : PySem.Str} {body : List Stmt} {Q : Flow → Shared → Prop}
/-- what is still to be shown of a for that counts down: a + 1, then a .. -/
noncomputable def DRest (prog : PySem.Program) (w : World) (A : Around) (h₀ : Heap) (env : Env) (x : PySem.Str) (body : List Stmt) (s : Shared) (Q : Flow → Shared → Prop) (E : Value → Shared → Prop) (I : Addr) (a : Int) : Nat → Nat → (PySem.Str → Option Value) → Led → Prop
  | 0, _, m, news => ∀ h tk, Fr h₀ env.locals h m → News h₀ env.locals h news → Q .next { s with heap := h, toks := tk }
  | k + 1, i, m, news => ∀ (t : Tok) (it : Obj) h tk (Q' : Flow → Shared → Prop), Fr h₀ env.locals h (fun y => if y = x then some (.int (a + (i : Int) * -1) t) else m y) → News h₀ env.locals h ((I, it) :: news) →
      (∀ h' tk' m' all news', Fr h₀ env.locals h' m' → News h₀ env.locals h' all → (∀ p ∈ (I, it) :: news', p ∈ all) → (∀ p ∈ news', p.1 ≠ I) → DRest prog w A h₀ env x body s Q E I a k (i + 1) m' news' → Q' .next { s with heap := h', toks := tk' }) →
      wpAny (model prog w) A (execs body env) Q' E { s with heap := h, toks := tk }
noncomputable def DoI (h₀ : Heap) (env : Env) (s : Shared) (I : Addr) (St : Nat → Heap → Prop) (n : Nat) (rest : Nat → Nat → (PySem.Str → Option Value) → Led → Prop) (k : Nat) (s' : Shared) : Prop :=
  ∀ G : Prop, (∀ h' tk i m' news', s' = { s with heap := h', toks := tk } → i ≤ n → k = n + 1 - i → St i h' → Fr h₀ env.locals h' m' → News h₀ env.locals h' news' → (∀ p ∈ news', p.1 ≠ I) → rest (n - i) i m' news' → G) → G
theorem iter_downG {r : Addr} {a b : Int} {t₀ u₀ v₀ : Tok} {n : Nat} {m₀ : PySem.Str → Option Value} {news : Led} {px : Pos} (hh : A.handled = none) (hr : IsRange s.heap r a b (-1) t₀ u₀ v₀) (hsmall : Builtin.Range.small a b (-1) = true) (hn : Builtin.Range.rangeSize a b (-1) = (n : Int)) (F : Fr h₀ env.locals s.heap m₀) (N : News h₀ env.locals s.heap news) (hx : env.kindOf x = some .local)
    (hp : (env.scope.kind == .class || (env.scope.kind == .module && env.locals != env.globals)) = false) (hE : PassesOwn (model prog w) A env E)
    (rest₀ : ∀ I : Addr, (∀ p ∈ news, p.1 < I) → DRest prog w A h₀ env x body s Q E I a n 0 m₀ news) :
    wpAny (model prog w) A (pyIter (.ref r)) (fun it s₂ => codeAny (model prog w) A (.forLoop (.Name x px) it body [] env) (fun r s' => match r with | .ok f => Q f s' | .error e => cameBackBy (model prog w) A env E e s') s₂) E s := by
  refine wpAny_pyIter_range hr hsmall ?_
  have rest := rest₀ s.heap.objs.size fun p hp => Heap.lt_size (N p hp).1
  have WK := (Walks.range (prog := prog) (w := w) hh s.heap.objs.size a (-1) n).bound
  have hnew := next_is_new F
  have hLf : env.locals ≠ s.heap.objs.size := Nat.ne_of_lt F.ns.lt
  refine codeAny_forLoop (DoI h₀ env s s.heap.objs.size (fun i h => IsRangeIter h s.heap.objs.size (a + (i : Nat) * (-1)) ((n : Int) - (i : Nat)) (-1)) n (DRest prog w A h₀ env x body s Q E s.heap.objs.size a)) ?_ (n + 1)
    (fun _ k => k _ _ 0 m₀ news rfl (Nat.zero_le _) rfl (by show IsRangeIter _ _ _ _ _; rw [hn]; simpa using Heap.get?_push_size _ rfl) (F.push _) (fun p hp => ⟨Heap.get?_push_of_some _ (N p hp).1, (N p hp).2⟩) (fun p hp => Nat.ne_of_lt (Heap.lt_size (N p hp).1)) rest)
  intro k s' hI
  refine hI _ ?_
  clear hI
  rintro h' tk i m' news' rfl hi rfl hst F' N' off R
  have next : ∀ h₁ : Heap, (∀ b o, b ∉ [s.heap.objs.size] → h'.get? b = some o → h₁.get? b = some o) → Fr h₀ env.locals h₁ m' ∧ News h₀ env.locals h₁ news' := fun h₁ hk =>
    ⟨⟨F'.ns.at' fun o e => hk _ o (by simpa using hLf) e, fun b o e => hk b o (fun hb => by rw [List.mem_singleton.mp hb, hnew] at e; cases e) (F'.keep b o e), F'.above⟩, fun p hp => ⟨hk _ _ (by simpa using off p hp) (N' p hp).1, (N' p hp).2⟩⟩
  by_cases hlt : i < n
  · refine WK.item i _ _ _ hlt hst fun v h₁ tk₁ hP hst₁ hk₁ => ?_
    obtain ⟨_, t, rfl⟩ := hP
    obtain ⟨F₁, N₁⟩ := next h₁ hk₁
    refine wpAny_assign_Name (wpAny_storeName_local hx F₁.ns (fun h₂ hn₂ hs₂ => ?_) hp)
    have F₂ := F₁.set hn₂ hs₂
    have N₂ := N₁.set hs₂
    obtain ⟨it, hit⟩ : ∃ it, h₁.get? s.heap.objs.size = some it := ⟨_, hst₁⟩
    have hit₂ : h₂.get? s.heap.objs.size = some it := (hs₂.2 _ (Ne.symm hLf)).trans hit
    have hit0 : some it = _ := hit.symm.trans hst₁
    have hdrop : n - i = (n - (i + 1)) + 1 := by omega
    rw [hdrop] at R
    have N₃ : News h₀ env.locals h₂ ((s.heap.objs.size, it) :: news') := fun p hp => by
      rcases List.mem_cons.mp hp with rfl | hp
      · exact ⟨hit₂, Ne.symm hLf, hnew⟩
      · exact N₂ p hp
    refine wpAny_passesOwn hE (R t it h₂ _ _ F₂ N₃ ?_)
    intro h₅ tk₅ m₅ all news₅ F₅ N₅ sub off₅ R₅
    refine ⟨n + 1 - (i + 1), by omega, fun _ kk => kk h₅ tk₅ (i + 1) m₅ news₅ rfl hlt rfl ?_ F₅ (fun p hp => N₅ p (sub p (.tail _ hp))) off₅ R₅⟩
    exact (N₅ _ (sub _ (.head _))).1.trans hit0
  · have hin : i = n := Nat.le_antisymm hi (Nat.not_lt.mp hlt)
    subst hin
    rw [Nat.sub_self] at R
    refine WK.done _ _ _ hst fun h₁ tk₁ hk₁ => ?_
    obtain ⟨F₁, N₁⟩ := next h₁ hk₁
    exact wpAny_execs_nil (R h₁ tk₁ F₁ N₁)
theorem DRestInd {I : Addr} {a : Int} (P : Nat → Nat → (PySem.Str → Option Value) → Led → Prop)
    (turn : ∀ k i m nw, P (k + 1) i m nw → ∀ (t : Tok) (it : Obj) h tk (Q' : Flow → Shared → Prop), (∀ {h' tk' m' all}, Fr h₀ env.locals h' m' → News h₀ env.locals h' all → ∀ nw', (∀ p ∈ (I, it) :: nw', p ∈ all) → (∀ p ∈ nw', p.1 ≠ I) → P k (i + 1) m' nw' → Q' .next { s with heap := h', toks := tk' }) → Fr h₀ env.locals h (fun y => if y = x then some (.int (a + (i : Int) * -1) t) else m y) → News h₀ env.locals h ((I, it) :: nw) →
      wpAny (model prog w) A (execs body env) Q' E { s with heap := h, toks := tk })
    (done : ∀ i m nw, P 0 i m nw → ∀ h tk, Fr h₀ env.locals h m → News h₀ env.locals h nw → Q .next { s with heap := h, toks := tk }) :
    ∀ k i m nw, P k i m nw → DRest prog w A h₀ env x body s Q E I a k i m nw
  | 0, i, m, nw, hP => fun h tk F N => done i m nw hP h tk F N
  | k + 1, i, m, nw, hP => fun t it h tk Q' F N kk => turn k i m nw hP t it h tk Q' (fun F' N' nw' sub off hP' => kk _ _ _ _ nw' F' N' sub off (DRestInd P turn done k (i + 1) _ _ hP')) F N
end
end Mine
end
section
open PySem PySem.W PyProof.Rows PySem.Calls PySem.Spec PyProof.Rows.LCg
open PyProof.V PySem.SeqAt
namespace Mine
theorem snoc_get {α : Type} {xs : List α} {x y : α} {i : Nat} (h : (xs ++ [x])[i]? = some y) : xs[i]? = some y ∨ (i = xs.length ∧ y = x) := by
  rcases Nat.lt_or_ge i xs.length with hlt | hge
  · exact .inl (by rwa [List.getElem?_append_left hlt] at h)
  · rw [List.getElem?_append_right hge] at h
    rcases Nat.eq_zero_or_pos (i - xs.length) with e | e
    · rw [e] at h
      cases h
      exact .inr ⟨by omega, rfl⟩
    · rw [List.getElem?_eq_none (by rw [List.length_singleton]; exact e)] at h
      cases h
theorem snoc_old {α : Type} {xs : List α} {x y : α} {i : Nat} (h : xs[i]? = some y) : (xs ++ [x])[i]? = some y := by
  rw [List.getElem?_append_left (List.getElem?_eq_some_iff.mp h).1]; exact h
theorem snoc_last {α : Type} {xs : List α} {x : α} : (xs ++ [x])[xs.length]? = some x := by
  rw [List.getElem?_append_right (Nat.le_refl _), Nat.sub_self]; rfl
section
variable {prog : PySem.Program} {w : World} {A : Around} {E : Value → Shared → Prop} {s : Shared} {h₀ : Heap} {L a b : Addr} {news : Led} {Q : Value → Shared → Prop} {K : Frag}
end
section
variable {prog : PySem.Program} {w : World} {A : Around} {h₀ : Heap} {L : Addr} {m : PySem.Str → Option Value} {env : Env} {elt : PySem.Expr} {scope : Scope} {cl : List (PySem.Str × Addr)} {s : Shared} {news : Led}
variable {a b : PySem.Str} {i0 : Led → Prop} {keep : Led} {Fin : Nat → List Value → Led → Prop}
end
end Mine
namespace Mine
theorem ints_get {v : Value} : ∀ {vs : List Value} {r : List Nat} {i : Nat}, IntsAre vs (castL r) → vs[i]? = some v → ∃ (k : Nat) (t : Tok), r[i]? = some k ∧ v = .int ((k : Nat) : Int) t
  | [], _, _, _, h => by cases h
  | _ :: _, [], _, hI, _ => by cases hI
  | _ :: vs, k :: r, 0, hI, h => by
    cases h
    cases hI with
    | cons _ t _ => exact ⟨k, t, rfl, rfl⟩
  | _ :: vs, k :: r, i + 1, hI, h => by
    cases hI with
    | cons _ t hr => exact ints_get (vs := vs) (r := r) (i := i) hr h
theorem ints_len {vs : List Value} {r : List Nat} (h : IntsAre vs (castL r)) : vs.length = r.length := by rw [h.length, List.length_map]
end Mine
namespace Mine
section
variable {prog : PySem.Program} {w : World} {A : Around} {E : Value → Shared → Prop} {s : Shared} {env : Env} {h₀ : Heap} {x : PySem.Str} {body : List Stmt} {Q : Flow → Shared → Prop}
end
end Mine
namespace Mine
end Mine
namespace Mine
theorem pick_from (us : List Value) (e : Nat) : slicePick us.toArray (some ((e : Nat) : Int)) none none = (us.drop e).toArray := by
  rw [kms_pick_eq]
  show (((us.drop (if ((e : Nat) : Int) < 0 then us.length - (-((e : Nat) : Int)).toNat else min ((e : Nat) : Int).toNat us.length)).take (us.length - (if ((e : Nat) : Int) < 0 then us.length - (-((e : Nat) : Int)).toNat else min ((e : Nat) : Int).toNat us.length)))).toArray = _
  rw [if_neg (by omega), Int.toNat_natCast, kmk_drop_min, List.take_of_length_le (by rw [List.length_drop]; omega)]
end Mine
namespace Mine
end Mine
namespace Mine
end Mine
namespace Mine
end Mine
namespace Mine
end Mine
namespace Mine
section
variable {prog : PySem.Program} {w : World} {A : Around} {h₀ : Heap} {L : Addr} {m : PySem.Str → Option Value} {env : Env} {elt : PySem.Expr} {scope : Scope} {cl : List (PySem.Str × Addr)} {s : Shared} {news : Led}
variable {a b : PySem.Str} {i0 : Led → Prop} {keep : Led} {Fin : Nat → List Value → Led → Prop}
end
end Mine
namespace Mine
end Mine
namespace Mine
end Mine
namespace Mine
end Mine
namespace Mine
end Mine
end
section
open PySem PySem.W PyProof.Rows PySem.Calls PySem.Spec PyProof.Rows.LCg
open PyProof.V PySem.SeqAt
namespace Mine
/-- two neighbours made one, in brackets -/
noncomputable def parS (a b : PySem.Str) : PySem.Str := PySem.Str.ofString "(" ++ a ++ b ++ PySem.Str.ofString ")"
/-- the trees: as many turns as told, each choosing by the number -/
noncomputable def nestGo : Nat → Int → List PySem.Str → List PySem.Str
  | 0, _, ss => ss
  | k + 1, x, ss => nestGo k (x.fdiv ((k + 1 : Nat) : Int)) (ss.take (x.fmod ((k + 1 : Nat) : Int)).toNat ++ [parS (ss.getD (x.fmod ((k + 1 : Nat) : Int)).toNat PySem.Str.empty) (ss.getD (x.fmod ((k + 1 : Nat) : Int) + 1).toNat PySem.Str.empty)] ++ ss.drop (x.fmod ((k + 1 : Nat) : Int) + 2).toNat)
noncomputable def one1 (c : Nat) : PySem.Str := ⟨#[c]⟩
noncomputable def nestF (x : PySem.Str) (n : Int) : PySem.Str := (nestGo 4 n (x.cps.toList.map one1)).getD 0 PySem.Str.empty
section
variable {prog : PySem.Program} {w : World} {A : Around} {E : Value → Shared → Prop} {s : Shared} {h₀ : Heap} {L : Addr} {m : PySem.Str → Option Value} {news : Led} {Q : Value → Shared → Prop}
theorem my_listStr {x : PySem.Str} {t : Tok} (hh : A.handled = none) (F : Fr h₀ L s.heap m) (N : News h₀ L s.heap news) (hn : x.cps.size ≤ sizeLine)
    (h : ∀ D h' tk (vs : List Value) n, StrsAre vs (x.cps.toList.map one1) → Fr h₀ L h' m → News h₀ L h' ((D, W.listOf vs.toArray n) :: news) → (∀ q ∈ news, q.1 < D) → Q (.ref D) { s with heap := h', toks := tk }) :
    wpAny (model prog w) A (call (.type "list") [.str x t]) Q E s := by
  refine call_list_str hh x t (hn := hn) fun h' tk acc' c' hk hS hacc => ?_
  have hLs : L < s.heap.objs.size := F.ns.lt
  refine h s.heap.objs.size h' tk acc'.toList c' (strs_idx (by simp [hacc.1]) fun i y hy => ?_) (F.keeps hk) (fun p hp => ?_) (fun q hq => Heap.lt_size (N q hq).1)
  · obtain ⟨c, u, hc, rfl⟩ := hacc.2 i y (by simpa using hy)
    exact ⟨one1 c, u, by simp [hc], rfl⟩
  · rcases List.mem_cons.mp hp with rfl | hp
    · exact ⟨hS, Ne.symm (Nat.ne_of_lt hLs), next_is_new F⟩
    · exact ⟨hk _ _ (N p hp).1, (N p hp).2⟩
end
theorem pick_from' (us : List Value) (x : Int) (e : Nat) (h : x = ((e : Nat) : Int)) : slicePick us.toArray (some x) none none = (us.drop e).toArray := by subst h; exact pick_from us e
theorem pick_upto (us : List Value) (e : Nat) : slicePick us.toArray none (some ((e : Nat) : Int)) none = (us.take e).toArray := by
  rw [kms_pick_eq]
  show ((us.drop 0).take ((if ((e : Nat) : Int) < 0 then us.length - (-((e : Nat) : Int)).toNat else min ((e : Nat) : Int).toNat us.length) - 0)).toArray = _
  rw [if_neg (by omega), Int.toNat_natCast, List.drop_zero, Nat.sub_zero, kmk_take_min]
end Mine
namespace Mine
noncomputable def NsP (I : Addr) (news : Led) (R : List PySem.Str) (k i : Nat) (m : PySem.Str → Option Value) (nw : Led) : Prop :=
  ∀ C : Led → Prop, (∀ (D : Addr) (vs : List Value) (n : Nat) (ss : List PySem.Str) (x : Int) (tx : Tok), StrsAre vs ss → ss.length = k + 1 → nestGo k x ss = R → k + i = 4 → (∀ q ∈ ss, q.length + 2 ≤ 3 * 2 ^ i) → @Ne Nat D I → m (PySem.Str.ofString "items") = some (.ref D) → m (PySem.Str.ofString "number") = some (.int x tx) → C ((D, W.listOf vs.toArray n) :: news)) → C nw
theorem fmod_ok (x : Int) (k : Nat) : 0 ≤ x.fmod ((k + 1 : Nat) : Int) ∧ x.fmod ((k + 1 : Nat) : Int) < ((k + 1 : Nat) : Int) := ⟨Int.fmod_nonneg_of_pos _ (by omega), Int.fmod_lt_of_pos _ (by omega)⟩
theorem getD_len {B n : Nat} {ss : List PySem.Str} (h : ∀ q ∈ ss, q.length + 2 ≤ B) (hB : 2 ≤ B) : (ss.getD n PySem.Str.empty).length + 2 ≤ B := by
  rw [List.getD_eq_getElem?_getD]
  cases e : ss[n]? with
  | none => exact hB
  | some q => exact h q (List.mem_of_getElem? e)
theorem par_len (a b : PySem.Str) : (parS a b).length = a.length + b.length + 2 := by
  simp only [parS, PySem.Str.length, PySem.Str.cps_append, Array.size_append]
  show 1 + a.cps.size + b.cps.size + 1 = _
  omega
theorem par_room {a b : PySem.Str} (ha : a.length ≤ 1000) (hb : b.length ≤ 1000) : (PySem.Str.ofString "(").length + a.length ≤ sizeLine ∧ (PySem.Str.ofString "(" ++ a).length + b.length ≤ sizeLine ∧ (PySem.Str.ofString "(" ++ a ++ b).length + (PySem.Str.ofString ")").length ≤ sizeLine := by
  simp only [PySem.Str.length, PySem.Str.cps_append, Array.size_append, PySem.sizeLine_eq] at *
  refine ⟨?_, ?_, ?_⟩
  · show 1 + _ ≤ _; omega
  · show 1 + _ + _ ≤ _; omega
  · show 1 + _ + _ + 1 ≤ _; omega
theorem nest_len {k i : Nat} {ss : List PySem.Str} {x : Int} (hl : ss.length = k + 2) (h : ∀ q ∈ ss, q.length + 2 ≤ 3 * 2 ^ i) :
    (ss.take (x.fmod ((k + 1 : Nat) : Int)).toNat ++ [parS (ss.getD (x.fmod ((k + 1 : Nat) : Int)).toNat PySem.Str.empty) (ss.getD (x.fmod ((k + 1 : Nat) : Int) + 1).toNat PySem.Str.empty)] ++ ss.drop (x.fmod ((k + 1 : Nat) : Int) + 2).toNat).length = k + 1 ∧
    ∀ q ∈ (ss.take (x.fmod ((k + 1 : Nat) : Int)).toNat ++ [parS (ss.getD (x.fmod ((k + 1 : Nat) : Int)).toNat PySem.Str.empty) (ss.getD (x.fmod ((k + 1 : Nat) : Int) + 1).toNat PySem.Str.empty)] ++ ss.drop (x.fmod ((k + 1 : Nat) : Int) + 2).toNat), q.length + 2 ≤ 3 * 2 ^ (i + 1) := by
  obtain ⟨h1, h2⟩ := fmod_ok x k
  have hp : 1 ≤ 2 ^ i := Nat.one_le_two_pow
  refine ⟨?_, fun q hq => ?_⟩
  · simp only [List.length_append, List.length_take, List.length_drop, List.length_singleton, hl]
    omega
  · have e : 3 * 2 ^ (i + 1) = 2 * (3 * 2 ^ i) := by rw [Nat.pow_succ]; omega
    rw [e]
    rcases List.mem_append.mp hq with hq | hq
    · rcases List.mem_append.mp hq with hq | hq
      · have := h q (List.mem_of_mem_take hq); omega
      · rw [List.mem_singleton.mp hq, par_len]
        have ha := getD_len (n := (x.fmod ((k + 1 : Nat) : Int)).toNat) h (by omega)
        have hb := getD_len (n := (x.fmod ((k + 1 : Nat) : Int) + 1).toNat) h (by omega)
        omega
    · have := h q (List.mem_of_mem_drop hq); omega
theorem strs_at {vs : List Value} {ss : List PySem.Str} (h : StrsAre vs ss) {x : Int} (h0 : 0 ≤ x) (hj : x < ss.length) : ∃ t, vs[x.toNat]? = some (.str (ss.getD x.toNat PySem.Str.empty) t) := by
  have hj' : x.toNat < ss.length := by omega
  obtain ⟨t, e⟩ := StrsAre.at h (j := x.toNat) (List.getElem?_eq_getElem hj')
  exact ⟨t, by rw [e, List.getD_eq_getElem?_getD, List.getElem?_eq_getElem hj']; rfl⟩
theorem strs_take {vs : List Value} {ss : List PySem.Str} : ∀ (n : Nat), StrsAre vs ss → StrsAre (vs.take n) (ss.take n)
  | 0, _ => by rw [List.take_zero, List.take_zero]; exact .nil
  | _ + 1, .nil => .nil
  | n + 1, .cons q t h => .cons q t (strs_take n h)
theorem strs_drop {vs : List Value} {ss : List PySem.Str} : ∀ (n : Nat), StrsAre vs ss → StrsAre (vs.drop n) (ss.drop n)
  | 0, h => h
  | _ + 1, .nil => .nil
  | n + 1, .cons _ _ h => strs_drop n h
theorem strs_app {vs us : List Value} {ss rs : List PySem.Str} (h2 : StrsAre us rs) : StrsAre vs ss → StrsAre (vs ++ us) (ss ++ rs)
  | .nil => h2
  | .cons q t h => .cons q t (strs_app h2 h)
theorem pick_int (us : List Value) (x : Int) (h : 0 ≤ x) : slicePick us.toArray (some x) none none = (us.drop x.toNat).toArray := pick_from' us x x.toNat (Int.toNat_of_nonneg h).symm
theorem pick_int_upto (us : List Value) (x : Int) (h : 0 ≤ x) : slicePick us.toArray none (some x) none = (us.take x.toNat).toArray := by
  have := pick_upto us x.toNat
  rwa [Int.toNat_of_nonneg h] at this
end Mine
namespace Mine
theorem nest_i {k i : Nat} (h : k + 1 + i = 4) : 3 * 2 ^ i ≤ 1000 := Nat.le_trans (Nat.mul_le_mul (Nat.le_refl 3) (Nat.pow_le_pow_right (by decide) (show i ≤ 4 by omega))) (by decide)
theorem nest_2 (i : Nat) : 2 ≤ 3 * 2 ^ i := Nat.le_trans (by decide : 2 ≤ 3 * 1) (Nat.mul_le_mul (Nat.le_refl 3) Nat.one_le_two_pow)
theorem one_len {l : List Nat} : ∀ q ∈ l.map one1, q.length + 2 ≤ 3 * 2 ^ 0 := fun q hq => by
  obtain ⟨c, _, rfl⟩ := List.mem_map.mp hq
  exact Nat.le_refl 3
end Mine
namespace Mine
theorem my_addL {prog : PySem.Program} {w : World} {A : Around} {E : Value → Shared → Prop} {s : Shared} {h₀ : Heap} {L a b : Addr} {m : PySem.Str → Option Value} {news : Led} {Q : Value → Shared → Prop} {vs us : List Value} {n k : Nat} (F : Fr h₀ L s.heap m) (N : News h₀ L s.heap news) (ha : (a, W.listOf vs.toArray n) ∈ news) (hb : (b, W.listOf us.toArray k) ∈ news) (hz : vs.length + us.length ≤ 1000)
    (h : ∀ D h', Fr h₀ L h' m → News h₀ L h' ((D, W.listOf (vs ++ us).toArray 0) :: news) → (∀ p ∈ news, p.1 < D) → Q (.ref D) { s with heap := h' }) : wpAny (model prog w) A (binaryOp .Add (.ref a) (.ref b)) Q E s :=
  kmk_add_lit F N (isList_of N ha) (isList_of N hb) rfl h (by rw [PySem.sizeLine_eq]; exact Nat.le_trans hz (by decide))
end Mine
namespace Mine
section
variable {prog : PySem.Program} {w : World} {A : Around} {E : Value → Shared → Prop} {s : Shared} {h₀ : Heap} {L l : Addr} {m : PySem.Str → Option Value} {news : Led} {Q : Value → Shared → Prop} {value slice : PySem.Expr} {vs : List Value} {n : Nat} {x : Int} {t : Tok}
theorem my_sliceF (F : Fr h₀ L s.heap m) (N : News h₀ L s.heap news) (hm : (l, W.listOf vs.toArray n) ∈ news) (h0 : 0 ≤ x) (hz : vs.length ≤ 1000)
    (h : ∀ D h', Fr h₀ L h' m → News h₀ L h' ((D, W.listOf (vs.drop x.toNat).toArray 0) :: news) → (∀ p ∈ news, p.1 < D) → Q (.ref D) { s with heap := h' })
    (hs : subscripted slice false (.ref l) (.ref s.heap.objs.size) = operate [.ref s.heap.objs.size, .ref l] (getItem (.ref l) (.ref s.heap.objs.size)) := by with_unfolding_all rfl) (ht : ∀ r, letTemporaryGo value (.ref l) r = pure () := by intro _; with_unfolding_all rfl) :
    wpAny (model prog w) A (subscriptTail value slice (.ref l) (.ref s.heap.objs.size)) Q E { s with heap := s.heap.push { cls := .type "slice", data := .fields #[.int x t, .none, .none] } } :=
  kmk_slice F N (isList_of N hm) (.int x t) .none (fun D h' F' N' hl => h D h' F' (by rw [pick_int _ _ h0] at N'; exact N') hl) hs ht (by rw [PySem.sizeLine_eq, List.size_toArray]; exact Nat.le_trans hz (by decide))
theorem my_sliceT (F : Fr h₀ L s.heap m) (N : News h₀ L s.heap news) (hm : (l, W.listOf vs.toArray n) ∈ news) (h0 : 0 ≤ x) (hz : vs.length ≤ 1000)
    (h : ∀ D h', Fr h₀ L h' m → News h₀ L h' ((D, W.listOf (vs.take x.toNat).toArray 0) :: news) → (∀ p ∈ news, p.1 < D) → Q (.ref D) { s with heap := h' })
    (hs : subscripted slice false (.ref l) (.ref s.heap.objs.size) = operate [.ref s.heap.objs.size, .ref l] (getItem (.ref l) (.ref s.heap.objs.size)) := by with_unfolding_all rfl) (ht : ∀ r, letTemporaryGo value (.ref l) r = pure () := by intro _; with_unfolding_all rfl) :
    wpAny (model prog w) A (subscriptTail value slice (.ref l) (.ref s.heap.objs.size)) Q E { s with heap := s.heap.push { cls := .type "slice", data := .fields #[.none, .int x t, .none] } } :=
  kmk_slice F N (isList_of N hm) .none (.int x t) (fun D h' F' N' hl => h D h' F' (by rw [pick_int_upto _ _ h0] at N'; exact N') hl) hs ht (by rw [PySem.sizeLine_eq, List.size_toArray]; exact Nat.le_trans hz (by decide))
end
end Mine
end
section
open PySem PySem.W PyProof.Rows PySem.Calls PySem.Spec PyProof.Rows.LCg
open PyProof.V PySem.SeqAt
namespace Mine
/-- the brackets' chords: from which place to which -/
noncomputable def chGo : List Nat → List Nat → Nat → List (Nat × Nat) → Option (List (Nat × Nat))
  | [], _, _, acc => some acc
  | c :: r, st, pl, acc => if c = 40 then chGo r (pl :: st) pl acc else if c = 41 then (if st = [] then none else chGo r st.tail pl (acc ++ [(st.headD 0, pl)])) else chGo r st (pl + 1) acc
theorem chGo_open (r st : List Nat) (pl : Nat) (acc : List (Nat × Nat)) : chGo (40 :: r) st pl acc = chGo r (pl :: st) pl acc := by rw [chGo, if_pos rfl]
theorem chGo_shut {r st : List Nat} {pl y : Nat} {acc : List (Nat × Nat)} : chGo (41 :: r) (y :: st) pl acc = chGo r st pl (acc ++ [(y, pl)]) := by
  rw [chGo, if_neg (by decide), if_pos rfl, if_neg (List.cons_ne_nil _ _)]; rfl
theorem chGo_none {r : List Nat} {pl : Nat} {acc : List (Nat × Nat)} : chGo (41 :: r) [] pl acc = none := by
  rw [chGo, if_neg (by decide), if_pos rfl, if_pos rfl]
theorem chGo_else {c : Nat} {r st : List Nat} {pl : Nat} {acc : List (Nat × Nat)} (h0 : c ≠ 40) (h1 : c ≠ 41) : chGo (c :: r) st pl acc = chGo r st (pl + 1) acc := by
  rw [chGo, if_neg h0, if_neg h1]
/-- pairs of numbers, as values -/
noncomputable def PrsAre : List (Addr × Value × Value) → List (Nat × Nat) → Prop
  | [], [] => True
  | e :: ts, p :: ps => (∃ t u, e.2 = (.int ((p.1 : Nat) : Int) t, .int ((p.2 : Nat) : Int) u)) ∧ PrsAre ts ps
  | _, _ => False
theorem PrsAre.snoc {D : Addr} {a b : Nat} {t u : Tok} : ∀ {ts : List (Addr × Value × Value)} {ps : List (Nat × Nat)}, PrsAre ts ps → PrsAre (ts ++ [(D, .int ((a : Nat) : Int) t, .int ((b : Nat) : Int) u)]) (ps ++ [(a, b)])
  | [], [], _ => ⟨⟨t, u, rfl⟩, True.intro⟩
  | _ :: _, _ :: _, ⟨h, r⟩ => ⟨h, PrsAre.snoc r⟩
  | [], _ :: _, x => x.elim
  | _ :: _, [], x => x.elim
theorem PrsAre.len : ∀ {ts : List (Addr × Value × Value)} {ps : List (Nat × Nat)}, PrsAre ts ps → ts.length = ps.length
  | [], [], _ => rfl
  | _ :: _, _ :: _, ⟨_, r⟩ => congrArg Nat.succ (PrsAre.len r)
  | [], _ :: _, x => x.elim
  | _ :: _, [], x => x.elim
theorem ints_split {y : Nat} : ∀ {s : List Nat} {vs : List Value}, IntsAre vs (castL (s ++ [y])) → ∃ p t, vs = p ++ [.int ((y : Nat) : Int) t] ∧ IntsAre p (castL s)
  | [], _, h => by
    cases h with
    | cons _ t h => cases h; exact ⟨[], t, rfl, .nil⟩
  | x :: s, _, h => by
    cases h with
    | cons _ t h =>
      obtain ⟨p, u, e, hp⟩ := ints_split (s := s) h
      exact ⟨.int ((x : Nat) : Int) t :: p, u, by rw [e]; rfl, .cons _ t hp⟩
theorem kl_last_snoc : ∀ (p : List Value) (y : Value), kl_last (p ++ [y]) = some (p, y)
  | [], _ => rfl
  | [_], _ => rfl
  | a :: b :: p, y => by
    have ih := kl_last_snoc (b :: p) y
    simp only [List.cons_append] at ih ⊢
    rw [kl_last, ih]
theorem my_pop {prog : PySem.Program} {w : World} {A : Around} {E : Value → Shared → Prop} {s : Shared} {h₀ : Heap} {L D : Addr} {m : PySem.Str → Option Value} {news news' : Led} {Q : Value → Shared → Prop} {vs p : List Value} {y : Value} {n : Nat} (F : Fr h₀ L s.heap m) (N : News h₀ L s.heap news) (e : vs = p ++ [y]) (U : Upd D (W.listOf vs.toArray n) (W.listOf p.toArray (n + 1)) news news') (hz : vs.length ≤ 1000)
    (h : ∀ h', Fr h₀ L h' m → News h₀ L h' news' → Q y { s with heap := h' }) : wpAny (model prog w) A (call (.builtin "list.pop") [.ref D]) Q E s :=
  kl_pop F N (by subst e; exact kl_last_snoc p y) U (by rw [PySem.sizeLine_eq]; exact Nat.le_trans hz (by decide)) h
/-- the chords so far -/
noncomputable def ChP (I : Addr) (news : Led) (R : List (Nat × Nat)) (us : List PySem.Str) (m : PySem.Str → Option Value) (nw : Led) : Prop :=
  ∀ C : List PySem.Str → Led → Prop, (∀ (cs : List Nat) (Dp Dc : Addr) (pv : List Value) (np nc pl : Nat) (st : List Nat) (ts : List (Addr × Value × Value)) (acc : List (Nat × Nat)) (ext : Led) (tp : Tok), IntsAre pv (castL st.reverse) → chGo cs st pl acc = some R → PrsAre ts acc → (∀ e ∈ ts, (e.1, tup [e.2.1, e.2.2]) ∈ ext) →
    (∀ q ∈ ext ++ news, q.1 ≠ I ∧ q.1 ≠ Dp ∧ q.1 ≠ Dc) → (∀ q ∈ ext, ∀ z ∈ news, z.1 < q.1) → (∀ z ∈ news, z.1 < Dc) → (@Ne Nat Dp I ∧ @Ne Nat Dc I ∧ @Ne Nat Dp Dc) → st.length + cs.length ≤ 100 → acc.length + cs.length ≤ 100 → pl + cs.length ≤ 100 →
    m (PySem.Str.ofString "pile") = some (.ref Dp) → m (PySem.Str.ofString "chords") = some (.ref Dc) → m (PySem.Str.ofString "place") = some (.int ((pl : Nat) : Int) tp) →
    C (cs.map one1) ((Dp, W.listOf pv.toArray np) :: (Dc, W.listOf (ts.map fun e => Value.ref e.1).toArray nc) :: (ext ++ news))) → C us nw
end Mine
namespace Mine
noncomputable def ChS (I : Addr) (news : Led) (R : List (Nat × Nat)) (cs : List Nat) (m : PySem.Str → Option Value) (C : Led → Prop) : Prop :=
  ∀ (Dp Dc : Addr) (pv : List Value) (np nc pl : Nat) (st : List Nat) (ts : List (Addr × Value × Value)) (acc : List (Nat × Nat)) (ext : Led) (tp : Tok), IntsAre pv (castL st.reverse) → chGo cs st pl acc = some R → PrsAre ts acc → (∀ e ∈ ts, (e.1, tup [e.2.1, e.2.2]) ∈ ext) →
    (∀ q ∈ ext ++ news, q.1 ≠ I ∧ q.1 ≠ Dp ∧ q.1 ≠ Dc) → (∀ q ∈ ext, ∀ z ∈ news, z.1 < q.1) → (∀ z ∈ news, z.1 < Dc) → (@Ne Nat Dp I ∧ @Ne Nat Dc I ∧ @Ne Nat Dp Dc) → st.length + cs.length ≤ 100 → acc.length + cs.length ≤ 100 → pl + cs.length ≤ 100 →
    m (PySem.Str.ofString "pile") = some (.ref Dp) → m (PySem.Str.ofString "chords") = some (.ref Dc) → m (PySem.Str.ofString "place") = some (.int ((pl : Nat) : Int) tp) →
    C ((Dp, W.listOf pv.toArray np) :: (Dc, W.listOf (ts.map fun e => Value.ref e.1).toArray nc) :: (ext ++ news))
theorem ChP.turn {I : Addr} {news nw : Led} {R : List (Nat × Nat)} {c : PySem.Str} {us : List PySem.Str} {m : PySem.Str → Option Value} {C : PySem.Str → List PySem.Str → Led → Prop} (h : ChP I news R (c :: us) m nw) (k : ∀ c0 cs, ChS I news R (c0 :: cs) m (C (one1 c0) (cs.map one1))) : C c us nw :=
  h (fun l nw => match l with | [] => True | c :: us => C c us nw) fun cs => by
    cases cs with
    | nil => intros; exact True.intro
    | cons c0 cs => exact k c0 cs
theorem ChP.done {I : Addr} {news nw : Led} {R : List (Nat × Nat)} {m : PySem.Str → Option Value} {C : Led → Prop} (h : ChP I news R [] m nw) (k : ChS I news R [] m C) : C nw :=
  h (fun l nw => match l with | [] => C nw | _ :: _ => True) fun cs => by
    cases cs with
    | nil => exact k
    | cons c0 cs => intros; exact True.intro
theorem ChP.mk {I : Addr} {news : Led} {R : List (Nat × Nat)} {m : PySem.Str → Option Value} {Dp Dc : Addr} {pv : List Value} {np nc pl : Nat} {cs st : List Nat} {ts : List (Addr × Value × Value)} {acc : List (Nat × Nat)} {ext : Led} {tp : Tok} (h1 : IntsAre pv (castL st.reverse)) (h2 : chGo cs st pl acc = some R) (h3 : PrsAre ts acc) (h4 : ∀ e ∈ ts, (e.1, tup [e.2.1, e.2.2]) ∈ ext)
    (h5 : ∀ q ∈ ext ++ news, q.1 ≠ I ∧ q.1 ≠ Dp ∧ q.1 ≠ Dc) (h6 : ∀ q ∈ ext, ∀ z ∈ news, z.1 < q.1) (h7 : ∀ z ∈ news, z.1 < Dc) (h8 : @Ne Nat Dp I ∧ @Ne Nat Dc I ∧ @Ne Nat Dp Dc) (h9 : st.length + cs.length ≤ 100) (h10 : acc.length + cs.length ≤ 100) (h11 : pl + cs.length ≤ 100)
    (h12 : m (PySem.Str.ofString "pile") = some (.ref Dp)) (h13 : m (PySem.Str.ofString "chords") = some (.ref Dc)) (h14 : m (PySem.Str.ofString "place") = some (.int ((pl : Nat) : Int) tp)) : ChP I news R (cs.map one1) m ((Dp, W.listOf pv.toArray np) :: (Dc, W.listOf (ts.map fun e => Value.ref e.1).toArray nc) :: (ext ++ news)) :=
  fun _ k => k cs Dp Dc pv np nc pl st ts acc ext tp h1 h2 h3 h4 h5 h6 h7 h8 h9 h10 h11 h12 h13 h14
end Mine
namespace Mine
section
variable {prog : PySem.Program} {w : World} {A : Around} {E : Value → Shared → Prop} {s : Shared} {Q : Value → Shared → Prop} {t u : Tok} {c : Nat}
theorem my_no40 (hc : ¬ c = 40) (h : Q (.bool false) s) : wpAny (model prog w) A (compareOp .Eq (.str (one1 c) t) (.str (PySem.Str.ofString "(") u)) Q E s := by
  refine my_eq1 (b := 40) ?_
  rw [decide_eq_false hc]; exact h
theorem my_no41 (hc : ¬ c = 41) (h : Q (.bool false) s) : wpAny (model prog w) A (compareOp .Eq (.str (one1 c) t) (.str (PySem.Str.ofString ")") u)) Q E s := by
  refine my_eq1 (b := 41) ?_
  rw [decide_eq_false hc]; exact h
end
theorem map_len {ts : List (Addr × Value × Value)} {ps : List (Nat × Nat)} {n : Nat} (h : PrsAre ts ps) (hb : ps.length + (n + 1) ≤ 100) : (ts.map fun e => Value.ref e.1).toArray.size ≤ sizeLine := by
  rw [List.size_toArray, List.length_map, h.len, PySem.sizeLine_eq]; omega
theorem push_map {ts : List (Addr × Value × Value)} {D : Addr} {a b : Value} : (ts.map fun e => Value.ref e.1).toArray.push (.ref D) = ((ts ++ [(D, a, b)]).map fun e => Value.ref e.1).toArray := by
  rw [List.push_toArray, List.map_append]; rfl
end Mine
namespace Mine
theorem ints_snocN {vs : List Value} {r : List Nat} {k : Nat} {t : Tok} (h : IntsAre vs (castL r)) : IntsAre (vs ++ [.int ((k : Nat) : Int) t]) (castL (r ++ [k])) := by
  show IntsAre _ (List.map _ (r ++ [k]))
  rw [List.map_append]; exact ints_push h _ _
end Mine
end
section
open PySem PySem.W PyProof.Rows PySem.Calls PySem.Spec PyProof.Rows.LCg
open PyProof.V PySem.SeqAt
namespace Mine
section
variable {prog : PySem.Program} {w : World} {A : Around} {h₀ : Heap} {L : Addr} {m : PySem.Str → Option Value} {env : Env} {c elt : PySem.Expr} {scope : Scope} {cl : List (PySem.Str × Addr)} {s : Shared} {news : Led}
variable {a b : PySem.Str} {i0 : Led → Prop} {keep : Led} {Fin : Nat → List Value → Led → Prop}
/-- a comprehension over pairs of numbers, with a test -/
theorem mrest_pairsT (bf : Nat × Nat → Bool) (P : Nat × Nat → Prop)
    (turn : ∀ (p : Nat × Nat) t u its C oC D m₂ ys h tk (E' : Value → Shared → Prop), P p → i0 its → LCg.NsObj oC m₂ → m₂ a = some (.int ((p.1 : Nat) : Int) t) → m₂ b = some (.int ((p.2 : Nat) : Int) u) → Fr h₀ L h m → News h₀ L h ((C, oC) :: (D, LCg.lst ys) :: (news ++ its)) →
      (∀ q ∈ news, q.1 ≠ C ∧ q.1 ≠ D) → (∀ q ∈ news, ∀ z ∈ its, q.1 ≠ z.1) → (∀ q ∈ its, q.1 ≠ C ∧ q.1 ≠ D) → (@Ne Nat C D) →
      wpAny (model prog w) A (isTrue c (compEnvC scope cl C env) (eval c (compEnvC scope cl C env))) (fun ok s' => if ok = true then
        wpAny (model prog w) A (eval elt (compEnvC scope cl C env)) (MEnd h₀ L m { s with heap := h, toks := tk } C oC D (LCg.lst ys) its keep (fun _ _ news' => news' = news ∧ bf p = true)) E' s'
        else MEnd h₀ L m { s with heap := h, toks := tk } C oC D (LCg.lst ys) its keep (fun _ _ news' => news' = news ∧ bf p = false) .none s') E' { s with heap := h, toks := tk }) :
    ∀ (ts : List (Addr × Value × Value)) (ps : List (Nat × Nat)) (ys : List Value) (n : Nat) (e : Bool), PrsAre ts ps → (∀ p ∈ ps, P p) → ys.isEmpty = !e →
      (∀ (n' : Nat) (zs : List Value), zs.isEmpty = !(e || ps.any bf) → zs.length ≤ ys.length + ps.length → Fin n' zs news) →
      MRest prog w A h₀ L m env (some c) elt a b scope cl s i0 keep Fin (ts.map fun e => (fun _ => e.2.1, fun _ => e.2.2)) n ys news := by
  intro ts
  induction ts with
  | nil =>
    intro ps ys n e hps hP hy fin
    cases ps with
    | cons => exact hps.elim
    | nil => exact fin n ys (by rw [hy]; simp) (Nat.le_add_right _ _)
  | cons x ts ih =>
    intro ps ys n e hps hP hy fin
    cases ps with
    | nil => exact hps.elim
    | cons p ps =>
      obtain ⟨⟨t, u, ex⟩, hts⟩ := hps
      rw [List.map_cons]
      refine MRest.consT ?_
      intro t' u' its C oC D m₂ h tk E' hk hi hC ha hb F N off offI offC ne
      rw [ex] at ha hb
      refine wpAny_mono (turn p t u its C oC D m₂ ys h tk E' (hP _ (.head _)) hi hC ha hb F N off offI offC ne) (fun ok s₂ hq => ?_) fun _ _ e => e
      cases ok with
      | true =>
        rw [if_pos rfl] at hq ⊢
        refine wpAny_mono hq (fun z s₃ hq => ?_) fun _ _ e => e
        intro G k
        refine hq G ?_
        intro h' tk' news' e' F' N' o1 o2 hkp hr
        obtain ⟨hn, hb⟩ := hr
        subst hn
        refine k h' tk' _ e' F' N' o1 o2 hkp (ih ps (ys ++ [z]) tk' true hts (fun q hq => hP q (.tail _ hq)) (by simp) fun n' zs hz hl => fin n' zs ?_ (by rw [List.length_append, List.length_singleton] at hl; rw [List.length_cons]; omega))
        rw [hz, List.any_cons, hb]; simp
      | false =>
        rw [if_neg Bool.false_ne_true] at hq ⊢
        intro G k
        refine hq G ?_
        intro h' tk' news' e' F' N' o1 o2 hkp hr
        obtain ⟨hn, hb⟩ := hr
        subst hn
        refine k h' tk' _ e' F' N' o1 o2 hkp (ih ps ys tk' e hts (fun q hq => hP q (.tail _ hq)) hy fun n' zs hz hl => fin n' zs ?_ (Nat.le_trans hl (Nat.le_succ _)))
        rw [hz, List.any_cons, hb, Bool.false_or]
end
/-- do a chord's ends look alike -/
noncomputable def alike (cor : List Nat) (p : Nat × Nat) : Bool := cor.getD p.1 0 == cor.getD p.2 0
noncomputable def toldC (cor : List Nat) (ps : List (Nat × Nat)) : PySem.Str := if ps.any (alike cor) then PySem.Str.ofString "" else one1 (letN ((cor.getD 0 0 ^^^ cor.getD 5 0) - 1))
theorem nats_at {vs : List Value} {r : List Nat} {j : Nat} (h : IntsAre vs (castL r)) (hj : j < r.length) : ∃ t, vs[((j : Nat) : Int).toNat]? = some (.int ((r.getD j 0 : Nat) : Int) t) := by
  have hl : j < vs.length := by rw [ints_len h]; exact hj
  obtain ⟨k, t, e1, e2⟩ := ints_get h (List.getElem?_eq_getElem hl)
  refine ⟨t, ?_⟩
  rw [Int.toNat_natCast, List.getElem?_eq_getElem hl, e2, List.getD_eq_getElem?_getD, e1]; rfl
end Mine
namespace Mine
theorem n_63 {k : Nat} (h : k < 6) : ((k : Nat) : Int) < 2 ^ 63 := by omega
end Mine
namespace Mine
theorem frGen1 {C : Prop} {h₀ h : Heap} {L : Addr} {m : PySem.Str → Option Value} {a : PySem.Str} {va : Value} (F : Fr h₀ L h m) (ha : m a = some va) (k : ∀ m0 : PySem.Str → Option Value, Fr h₀ L h (fun y => if y = a then some va else m0 y) → C) : C := k m (mx1 ha ▸ F)
end Mine
namespace Mine
theorem alike_t {cor : List Nat} {p : Nat × Nat} (h : ((cor.getD p.1 0 : Nat) : Int) = ((cor.getD p.2 0 : Nat) : Int)) : alike cor p = true := beq_iff_eq.mpr (Int.ofNat.inj h)
theorem alike_f {cor : List Nat} {p : Nat × Nat} (h : ((cor.getD p.1 0 : Nat) : Int) ≠ ((cor.getD p.2 0 : Nat) : Int)) : alike cor p = false := by
  cases e : alike cor p with
  | false => rfl
  | true => exact absurd (congrArg Int.ofNat (beq_iff_eq.mp e)) h
theorem keep_mem {ts : List (Addr × Value × Value)} {news : Led} (hin : ∀ e ∈ ts, (e.1, tup [e.2.1, e.2.2]) ∈ news) : ∀ q ∈ ts.map (fun e => (e.1, tup [e.2.1, e.2.2])), q ∈ news := fun q hq => by
  obtain ⟨e, he, rfl⟩ := List.mem_map.mp hq
  exact hin e he
end Mine
namespace Mine
theorem xor_tab : ∀ a, a < 4 → ∀ b, b < 4 → a ≠ b → (Builtin.bitXor ((a : Nat) : Int) ((b : Nat) : Int) - 1 = 0 ∧ letN ((a ^^^ b) - 1) = 114) ∨ (Builtin.bitXor ((a : Nat) : Int) ((b : Nat) : Int) - 1 = 1 ∧ letN ((a ^^^ b) - 1) = 103) ∨ (Builtin.bitXor ((a : Nat) : Int) ((b : Nat) : Int) - 1 = 2 ∧ letN ((a ^^^ b) - 1) = 98) := by decide +kernel
theorem cast_getD (cor : List Nat) (i : Nat) : (castL cor).getD i 0 = ((cor.getD i 0 : Nat) : Int) := by
  rw [List.getD_eq_getElem?_getD, List.getD_eq_getElem?_getD, List.getElem?_map]
  cases cor[i]? <;> rfl
theorem getD_lt {cor : List Nat} {i : Nat} (h : ∀ x ∈ cor, x < 4) : cor.getD i 0 < 4 := by
  rw [List.getD_eq_getElem?_getD]
  cases e : cor[i]? with
  | none => decide
  | some x => exact h x (List.mem_of_getElem? e)
theorem told_x {cor : List Nat} {ps : List (Nat × Nat)} (h4 : ∀ x ∈ cor, x < 4) (h05 : (0, 5) ∈ ps) (hany : ps.any (alike cor) = false) :
    (Builtin.bitXor ((castL cor).getD (Int.toNat 0) 0) ((castL cor).getD (Int.toNat 5) 0) - 1 = 0 ∧ toldC cor ps = one1 114) ∨ (Builtin.bitXor ((castL cor).getD (Int.toNat 0) 0) ((castL cor).getD (Int.toNat 5) 0) - 1 = 1 ∧ toldC cor ps = one1 103) ∨ (Builtin.bitXor ((castL cor).getD (Int.toNat 0) 0) ((castL cor).getD (Int.toNat 5) 0) - 1 = 2 ∧ toldC cor ps = one1 98) := by
  have hne : cor.getD 0 0 ≠ cor.getD 5 0 := fun e => by
    have h1 : alike cor (0, 5) = true := beq_iff_eq.mpr e
    have h2 := List.any_eq_false.mp hany (0, 5) h05
    exact h2 h1
  have z := xor_tab _ (getD_lt (i := 0) h4) _ (getD_lt (i := 5) h4) hne
  rw [show Int.toNat 0 = 0 from rfl, show Int.toNat 5 = 5 from rfl, cast_getD, cast_getD, toldC, if_neg (by rw [hany]; exact Bool.false_ne_true)]
  rcases z with ⟨z1, z2⟩ | ⟨z1, z2⟩ | ⟨z1, z2⟩
  · exact .inl ⟨z1, by rw [z2]⟩
  · exact .inr (.inl ⟨z1, by rw [z2]⟩)
  · exact .inr (.inr ⟨z1, by rw [z2]⟩)
end Mine
end
section
open PySem PySem.W PyProof.Rows PySem.Calls PySem.Spec PyProof.Rows.LCg
namespace Mine
noncomputable abbrev St (x : String) : PySem.Str := PySem.Str.ofString x
theorem replL_le (P Z : List Nat) (h : Z.length ≤ P.length) : ∀ (L : List Nat) (k : Nat), (replL P Z L k).length ≤ L.length - k
  | [], _ => by simp [replL]
  | c :: r, 0 => by
    rw [replL]
    split
    · rename_i hp
      have h1 := (List.isPrefixOf_iff_prefix.mp hp).length_le
      have h2 := replL_le P Z h r (P.length - 1)
      rw [List.length_cons] at h1
      rw [List.length_append, List.length_cons]
      omega
    · have h2 := replL_le P Z h r 0
      rw [List.length_cons, List.length_cons]
      omega
  | _ :: r, k + 1 => by
    have h2 := replL_le P Z h r k
    rw [replL, List.length_cons]
    omega
theorem repOk_all : ∀ (ps : List RPr) (x : PySem.Str), (∀ p ∈ ps, 1 ≤ p.1.1.length ∧ PySem.Builtin.Str.strKind p.1.1 = 1 ∧ p.2.1.length ≤ 64 ∧ p.2.1.cps.toList.length ≤ p.1.1.cps.toList.length) → x.length ≤ 1000 → RepOk ps x
  | [], _, _, _ => True.intro
  | p :: r, x, h, hx => by
    obtain ⟨h1, h2, h3, h4⟩ := h p (.head _)
    exact ⟨hx, h1, h2, h3, fun x' e => repOk_all r x' (fun q hq => h q (.tail _ hq)) (Nat.le_trans (by have := replL_le _ _ h4 x.cps.toList 0; rw [← e] at this; simpa [PySem.Str.length] using this) hx)⟩
noncomputable def ps6 (t0 u0 t1 u1 t2 u2 t3 u3 t4 u4 t5 u5 : Tok) : List RPr := [((St "(rg)", t0), (St "b", u0)), ((St "(gb)", t1), (St "r", u1)), ((St "(br)", t2), (St "g", u2)), ((St "(gr)", t3), (St "-b", u3)), ((St "(bg)", t4), (St "-r", u4)), ((St "(rb)", t5), (St "-g", u5))]
noncomputable def rep6 (l : List Nat) : List Nat := repF (ps6 0 0 0 0 0 0 0 0 0 0 0 0) l
theorem repOk6 {x : PySem.Str} (h : x.length ≤ 1000) {t0 u0 t1 u1 t2 u2 t3 u3 t4 u4 t5 u5 : Tok} : RepOk (ps6 t0 u0 t1 u1 t2 u2 t3 u3 t4 u4 t5 u5) x := by
  refine repOk_all _ _ ?_ h
  unfold ps6
  refine FMC.all ⟨?_, FMC.all ⟨?_, FMC.all ⟨?_, FMC.all ⟨?_, FMC.all ⟨?_, FMC.all ⟨?_, List.forall_mem_nil _⟩⟩⟩⟩⟩⟩ <;> (dsimp only; decide +kernel)
noncomputable def rep6S (x : PySem.Str) : PySem.Str := ⟨(rep6 x.cps.toList).toArray⟩
noncomputable def noMin (x : PySem.Str) : PySem.Str := ⟨(replL (St "-").cps.toList (St "").cps.toList x.cps.toList 0).toArray⟩
/-- all brackets done away with, turn by turn; and how many signs changed -/
noncomputable def byT : Nat → PySem.Str → Int → PySem.Str × Int
  | 0, x, n => (x, n)
  | k + 1, x, n => byT k (noMin (rep6S x)) (n + Txt.count (rep6S x) (St "-"))
noncomputable def byTF (x : PySem.Str) : PySem.Str := if (byT 4 x 0).1.length = 1 then (byT 4 x 0).1 else PySem.Str.ofString ""
noncomputable def BtP (news : Led) (R : PySem.Str × Int) (k : Nat) (m : PySem.Str → Option Value) (nw : Led) : Prop :=
  ∀ C : Led → Prop, (∀ (x : PySem.Str) (n : Int) (tx tn : Tok), byT k x n = R → x.length ≤ 100 → m (PySem.Str.ofString "text") = some (.str x tx) → m (PySem.Str.ofString "minus") = some (.int n tn) → C news) → C nw
theorem repF_le : ∀ (ps : List RPr) (l : List Nat), (∀ p ∈ ps, p.2.1.cps.toList.length ≤ p.1.1.cps.toList.length) → (repF ps l).length ≤ l.length
  | [], _, _ => Nat.le_refl _
  | p :: r, l, h => Nat.le_trans (repF_le r _ fun q hq => h q (.tail _ hq)) (replL_le _ _ (h p (.head _)) l 0)
theorem rep6_le (x : PySem.Str) : (rep6S x).length ≤ x.length := by
  have h := repF_le (ps6 0 0 0 0 0 0 0 0 0 0 0 0) x.cps.toList (by unfold ps6; decide +kernel)
  simpa [rep6S, rep6, PySem.Str.length] using h
theorem noMin_le (x : PySem.Str) : (noMin x).length ≤ x.length := by
  have h := replL_le (St "-").cps.toList (St "").cps.toList (by decide +kernel) x.cps.toList 0
  simpa [noMin, PySem.Str.length] using h
theorem str_list {y : PySem.Str} {l : List Nat} (h : y.cps.toList = l) : y = ⟨l.toArray⟩ := cps_eq (by rw [h])
theorem repOk1 {x : PySem.Str} (h : x.length ≤ 1000) {t0 u0 : Tok} : RepOk [((St "-", t0), (St "", u0))] x := by
  refine repOk_all _ _ ?_ h
  refine FMC.all ⟨?_, List.forall_mem_nil _⟩
  dsimp only
  decide +kernel
end Mine
end
section
open PySem PySem.W PyProof.Rows PySem.Calls PySem.Spec
namespace Mine
section
variable {prog : PySem.Program} {w : World} {A : Around} {E : Value → Shared → Prop} {s : Shared} {env : Env} {h₀ : Heap} {x : PySem.Str} {body : List Stmt} {Q : Flow → Shared → Prop}
/-- what is still to be shown of a for over a text: the tokens' count never falls below the one told last -/
noncomputable def SRest (prog : PySem.Program) (w : World) (A : Around) (h₀ : Heap) (env : Env) (x : PySem.Str) (body : List Stmt) (s : Shared) (Q : Flow → Shared → Prop) (E : Value → Shared → Prop) (I : Addr) : List Nat → Nat → (PySem.Str → Option Value) → Led → Prop
  | [], n, m, news => ∀ h tk, n ≤ tk → Fr h₀ env.locals h m → News h₀ env.locals h news → Q .next { s with heap := h, toks := tk }
  | c :: r, n, m, news => ∀ (u : Tok) (it : Obj) h tk (Q' : Flow → Shared → Prop), n ≤ tk → Fr h₀ env.locals h (fun y => if y = x then some (.str (one1 c) u) else m y) → News h₀ env.locals h ((I, it) :: news) →
      (∀ h' tk' m' all news', Fr h₀ env.locals h' m' → News h₀ env.locals h' all → (∀ p ∈ (I, it) :: news', p ∈ all) → (∀ p ∈ news', p.1 ≠ I) → SRest prog w A h₀ env x body s Q E I r tk' m' news' → Q' .next { s with heap := h', toks := tk' }) →
      wpAny (model prog w) A (execs body env) Q' E { s with heap := h, toks := tk }
noncomputable def SoI (h₀ : Heap) (env : Env) (s : Shared) (I : Addr) (St : Nat → Heap → Prop) (n : Nat) (vs : List Nat) (rest : List Nat → Nat → (PySem.Str → Option Value) → Led → Prop) (k : Nat) (s' : Shared) : Prop :=
  ∀ G : Prop, (∀ h' tk nn i m' news', s' = { s with heap := h', toks := tk } → nn ≤ tk → i ≤ n → k = n + 1 - i → St i h' → Fr h₀ env.locals h' m' → News h₀ env.locals h' news' → (∀ p ∈ news', p.1 ≠ I) → rest (vs.drop i) nn m' news' → G) → G
theorem iter_strG {tx : PySem.Str} {t : Tok} {m₀ : PySem.Str → Option Value} {news : Led} {px : Pos} (hh : A.handled = none) (F : Fr h₀ env.locals s.heap m₀) (N : News h₀ env.locals s.heap news) (hx : env.kindOf x = some .local)
    (hp : (env.scope.kind == .class || (env.scope.kind == .module && env.locals != env.globals)) = false) (hE : PassesOwn (model prog w) A env E)
    (rest₀ : ∀ I : Addr, (∀ p ∈ news, p.1 < I) → SRest prog w A h₀ env x body s Q E I tx.cps.toList s.toks m₀ news) :
    wpAny (model prog w) A (pyIter (.str tx t)) (fun it s₂ => codeAny (model prog w) A (.forLoop (.Name x px) it body [] env) (fun r s' => match r with | .ok f => Q f s' | .error e => cameBackBy (model prog w) A env E e s') s₂) E s := by
  have rest := rest₀ s.heap.objs.size fun p hp => Heap.lt_size (N p hp).1
  have hnew := next_is_new F
  have hLf : env.locals ≠ s.heap.objs.size := Nat.ne_of_lt F.ns.lt
  have hlen : tx.cps.size = tx.cps.toList.length := by rw [Array.length_toList]
  have go : ∀ (T : String) (o : Obj), Walks prog w A s.heap.objs.size [s.heap.objs.size] [s.heap.objs.size] tx.cps.size (SignAt tx) (fun i h => h.IsStrIter s.heap.objs.size T tx t i) → (s.heap.push o).IsStrIter s.heap.objs.size T tx t 0 →
      codeAny (model prog w) A (.forLoop (.Name x px) (.ref s.heap.objs.size) body [] env) (fun r s' => match r with | .ok f => Q f s' | .error e => cameBackBy (model prog w) A env E e s') { s with heap := s.heap.push o } := by
    intro T o WK hst0
    rw [hlen] at WK
    refine codeAny_forLoop (SoI h₀ env s s.heap.objs.size (fun i h => h.IsStrIter s.heap.objs.size T tx t i) tx.cps.toList.length tx.cps.toList (SRest prog w A h₀ env x body s Q E s.heap.objs.size)) ?_ (tx.cps.toList.length + 1)
      (fun _ k => k _ _ s.toks 0 m₀ news rfl (Nat.le_refl _) (Nat.zero_le _) rfl hst0 (F.push _) (fun p hp => ⟨Heap.get?_push_of_some _ (N p hp).1, (N p hp).2⟩) (fun p hp => Nat.ne_of_lt (Heap.lt_size (N p hp).1)) (by rw [List.drop_zero]; exact rest))
    intro k s' hI
    refine hI _ ?_
    clear hI
    rintro h' tk nn i m' news' rfl hge hi rfl hst F' N' off R
    have next : ∀ h₁ : Heap, (∀ b o, b ∉ [s.heap.objs.size] → h'.get? b = some o → h₁.get? b = some o) → Fr h₀ env.locals h₁ m' ∧ News h₀ env.locals h₁ news' := fun h₁ hk =>
      ⟨⟨F'.ns.at' fun o e => hk _ o (by simpa using hLf) e, fun b o e => hk b o (fun hb => by rw [List.mem_singleton.mp hb, hnew] at e; cases e) (F'.keep b o e), F'.above⟩, fun p hp => ⟨hk _ _ (by simpa using off p hp) (N' p hp).1, (N' p hp).2⟩⟩
    by_cases hlt : i < tx.cps.toList.length
    · refine wpAny_grow (WK.item i _ _ _ hlt hst fun v h₁ tk₁ hP hst₁ hk₁ => ?_)
      intro hg₁
      obtain ⟨c, u, hc, rfl⟩ := hP
      obtain ⟨F₁, N₁⟩ := next h₁ hk₁
      refine wpAny_grow (wpAny_assign_Name (wpAny_storeName_local hx F₁.ns (fun h₂ hn₂ hs₂ => ?_) hp))
      intro hg₂
      have F₂ := F₁.set hn₂ hs₂
      have N₂ := N₁.set hs₂
      obtain ⟨it, hit, hic⟩ := hst₁
      have hit₂ : h₂.get? s.heap.objs.size = some it := (hs₂.2 _ (Ne.symm hLf)).trans hit
      have hdrop : tx.cps.toList.drop i = c :: tx.cps.toList.drop (i + 1) := by
        have hv : tx.cps.toList[i]? = some c := by simpa using hc
        rw [List.drop_eq_getElem_cons hlt]
        congr 1
        exact Option.some.inj ((List.getElem?_eq_getElem hlt).symm.trans hv)
      rw [hdrop] at R
      have N₃ : News h₀ env.locals h₂ ((s.heap.objs.size, it) :: news') := fun p hp => by
        rcases List.mem_cons.mp hp with rfl | hp
        · exact ⟨hit₂, Ne.symm hLf, hnew⟩
        · exact N₂ p hp
      refine wpAny_passesOwn hE (R u it h₂ _ _ (Nat.le_trans hge (Nat.le_trans hg₁ hg₂)) F₂ N₃ ?_)
      intro h₅ tk₅ m₅ all news₅ F₅ N₅ sub off₅ R₅
      exact ⟨tx.cps.toList.length + 1 - (i + 1), by omega, fun _ kk => kk h₅ tk₅ tk₅ (i + 1) m₅ news₅ rfl (Nat.le_refl _) hlt rfl ⟨it, (N₅ _ (sub _ (.head _))).1, hic⟩ F₅ (fun p hp => N₅ p (sub p (.tail _ hp))) off₅ R₅⟩
    · have hin : i = tx.cps.toList.length := Nat.le_antisymm hi (Nat.not_lt.mp hlt)
      subst hin
      rw [List.drop_length] at R
      refine wpAny_grow (WK.done _ _ _ hst fun h₁ tk₁ hk₁ => ?_)
      intro hg
      obtain ⟨F₁, N₁⟩ := next h₁ hk₁
      exact wpAny_execs_nil (R h₁ tk₁ (Nat.le_trans hge hg) F₁ N₁)
  cases ha : tx.cps.all (· < 128)
  · exact wpAny_pyIter_wide ha (go "str_iterator" _ (Walks.strWide hh _ tx t) ⟨_, Heap.get?_push_size _ rfl, rfl, rfl⟩)
  · exact wpAny_pyIter_ascii ha (go "str_ascii_iterator" _ (Walks.strAscii hh _ tx t) ⟨_, Heap.get?_push_size _ rfl, rfl, rfl⟩)
theorem SRestInd {I : Addr} (P : List Nat → Nat → (PySem.Str → Option Value) → Led → Prop)
    (turn : ∀ c r n m nw, P (c :: r) n m nw → ∀ (u : Tok) (it : Obj) h tk (Q' : Flow → Shared → Prop), n ≤ tk → (∀ {h' tk' m' all}, Fr h₀ env.locals h' m' → News h₀ env.locals h' all → ∀ nw', (∀ p ∈ (I, it) :: nw', p ∈ all) → (∀ p ∈ nw', p.1 ≠ I) → P r tk' m' nw' → Q' .next { s with heap := h', toks := tk' }) → Fr h₀ env.locals h (fun y => if y = x then some (.str (one1 c) u) else m y) → News h₀ env.locals h ((I, it) :: nw) →
      wpAny (model prog w) A (execs body env) Q' E { s with heap := h, toks := tk })
    (done : ∀ n m nw, P [] n m nw → ∀ h tk, n ≤ tk → Fr h₀ env.locals h m → News h₀ env.locals h nw → Q .next { s with heap := h, toks := tk }) :
    ∀ cs n m nw, P cs n m nw → SRest prog w A h₀ env x body s Q E I cs n m nw
  | [], n, m, nw, hP => fun h tk hn F N => done n m nw hP h tk hn F N
  | c :: r, n, m, nw, hP => fun u it h tk Q' hn F N k => turn c r n m nw hP u it h tk Q' hn (fun F' N' nw' sub off hP' => k _ _ _ _ nw' F' N' sub off (SRestInd P turn done r _ _ _ hP')) F N
end
end Mine
end
section
open PySem PySem.W PyProof.Rows PySem.Calls PySem.Spec
open PyProof.V PySem.SeqAt
namespace Mine
theorem tix (a : Addr) (x y z v : Value) (n : Nat) (b0 b1 b2 : Bool) (hb : b0 = false → b1 = false → b2 = true) :
    Meets (Builtin.«tuple.index» ⟨[.ref a, v], []⟩)
      (fun A R s => s.heap.get? a = some { cls := .type "tuple", data := .seq #[x, y, z] n } ∧ EqAt A.in1 s x v b0 ∧ EqAt A.in1 s y v b1 ∧ EqAt A.in1 s z v b2 ∧
        R (.ok (.ret (.int (if b0 then 0 else if b1 then 1 else 2) s.toks))) { s with toks := s.toks + 1 }) := by
  intro prog w A R s h
  obtain ⟨hp, g, d, tk, os⟩ := s; obtain ⟨ha, e0, e1, e2, h⟩ := h
  unfold Builtin.«tuple.index»
  simp only [Std.Legacy.Range.forIn_eq_forIn_range']
  wp_walk using wpAny_loadPart' ha
  have e : ∀ n : Nat, n = 3 → List.range' 0 (Std.Legacy.Range.size [:min n n]) = [0, 1, 2] := fun n hn => by subst hn; decide
  generalize hL : List.range' 0 (Std.Legacy.Range.size [:min (#[x, y, z] : Array Value).size (#[x, y, z] : Array Value).size]) = as
  replace hL : [0, 1, 2] = as := (e (#[x, y, z] : Array Value).size rfl).symm.trans hL
  subst hL
  show wpAny _ _ ((eqBool x v >>= fun b => _) >>= _) _ _ _
  refine wpAny_bind (wpAny_bind (e0 prog w _ _ ?_))
  have fin : ∀ i : Int, R (.ok (.ret (.int i tk))) { heap := hp, gens := g, drawn := d, toks := tk + 1, os := os } →
      wpAny (model prog w) A.in1 (retInt i >>= fun v => (pure (ForInStep.done (some v, ())) : Sem (ForInStep (Option Fin × Unit)))) (fun r s' => ∃ v, r = ForInStep.done (some v, ()) ∧ (match v with | .done f => R (.ok f) s' | .again c' => c'.quiet = true ∧ codeAny (model prog w) A c' R s')) (fun e s' => R (.error e) s') { heap := hp, gens := g, drawn := d, toks := tk, os := os } := fun i hi =>
    wpAny_bind (show wpAny _ _ (mkInt i >>= fun v => ret v) _ _ _ from wpAny_bind (wpAny_mkInt (wpAny_pure (wpAny_pure ⟨_, rfl, hi⟩))))
  cases b0 with
  | true =>
    rw [if_pos rfl]
    refine wpAny_mono (fin 0 h) (fun r s' hr => ?_) fun _ _ e => e
    obtain ⟨v9, rfl, hv⟩ := hr
    exact wpAny_pure (wpAny_pure hv)
  | false =>
    rw [if_neg Bool.false_ne_true]
    refine wpAny_pure ?_
    show wpAny _ _ ((eqBool y v >>= fun b => _) >>= _) _ _ _
    refine wpAny_bind (wpAny_bind (e1 prog w _ _ ?_))
    cases b1 with
    | true =>
      rw [if_pos rfl]
      refine wpAny_mono (fin 1 h) (fun r s' hr => ?_) fun _ _ e => e
      obtain ⟨v9, rfl, hv⟩ := hr
      exact wpAny_pure (wpAny_pure hv)
    | false =>
      rw [if_neg Bool.false_ne_true]
      refine wpAny_pure ?_
      show wpAny _ _ ((eqBool z v >>= fun b => _) >>= _) _ _ _
      refine wpAny_bind (wpAny_bind (e2 prog w _ _ ?_))
      rw [if_pos (hb rfl rfl)]
      refine wpAny_mono (fin 2 h) (fun r s' hr => ?_) fun _ _ e => e
      obtain ⟨v9, rfl, hv⟩ := hr
      exact wpAny_pure (wpAny_pure hv)
theorem my_tix {prog : PySem.Program} {w : World} {A : Around} {E : Value → Shared → Prop} {s : Shared} {h₀ : Heap} {L a : Addr} {news : Led} {Q : Value → Shared → Prop} {x y z v : Value} {b0 b1 b2 : Bool} (hb : b0 = false → b1 = false → b2 = true) (N : News h₀ L s.heap news) (hm : (a, tup [x, y, z]) ∈ news) (e0 : EqAt A.in1 s x v b0) (e1 : EqAt A.in1 s y v b1) (e2 : EqAt A.in1 s z v b2)
    (h : Q (.int (if b0 then 0 else if b1 then 1 else 2) s.toks) { s with toks := s.toks + 1 }) : wpAny (model prog w) A (call (.builtin "tuple.index") [.ref a, v]) Q E s :=
  call_meets PySem.F.slot_tuple_index ⟨_, (N _ hm).1, rfl⟩ PySem.F.entry_tuple_index (PySem.F.args_tuple_index_2 _ _) (tix a x y z v 0 b0 b1 b2 hb) ⟨(N _ hm).1, e0, e1, e2, h⟩
end Mine
end
section
open PySem PySem.W PyProof.Rows PySem.Calls PySem.Spec PyProof.Rows.LCg
open PyProof.V PySem.SeqAt
namespace Mine
theorem my_colIx {prog : PySem.Program} {w : World} {A : Around} {E : Value → Shared → Prop} {s : Shared} {h₀ : Heap} {L a : Addr} {news : Led} {Q : Value → Shared → Prop} {K : Frag} {k : Nat} {t u v c : Tok} (X : K.In s.heap) (e : nsIn K cStatics sharingNotToldKey = some none) (N : News h₀ L s.heap news) (hm : (a, colO k t u v) ∈ news) (hk : k < 3) (h0 : t ≠ 0 ∧ u ≠ 0 ∧ v ≠ 0 ∧ c ≠ 0) (hc : t ≠ c ∧ u ≠ c ∧ v ≠ c)
    (h : Q (.int ((k : Nat) : Int) s.toks) { s with toks := s.toks + 1 }) : wpAny (model prog w) A (call (.builtin "tuple.index") [.ref a, .float f1 c]) Q E s := by
  obtain ⟨a1, a2, a3, a4⟩ := h0
  obtain ⟨c1, c2, c3⟩ := hc
  have g : ∀ {x : UInt64} {t : Tok}, (x = f0 ∨ x = f1) → t ≠ 0 → t ≠ c → EqAt A.in1 s (.float x t) (.float f1 c) (decide (x = f1)) := fun hx ht htc => EqF1 X e hx (.inr rfl) ht a4 fun _ => htc
  have o := col01 hk
  rcases lt3 hk with rfl | rfl | rfl
  · exact my_tix (b0 := true) (b1 := false) (b2 := false) (fun h => nomatch h) N hm (g o.1 a1 c1) (g o.2.1 a2 c2) (g o.2.2 a3 c3) h
  · exact my_tix (b0 := false) (b1 := true) (b2 := false) (fun _ h => nomatch h) N hm (g o.1 a1 c1) (g o.2.1 a2 c2) (g o.2.2 a3 c3) h
  · exact my_tix (b0 := false) (b1 := false) (b2 := true) (fun _ _ => rfl) N hm (g o.1 a1 c1) (g o.2.1 a2 c2) (g o.2.2 a3 c3) h
/-- a pile's things as values: a colour or None; their tokens under n, each two fit to be mixed -/
noncomputable def PileC (led : Led) (n : Nat) (vs : List Value) (ks : List (Option Nat)) : Prop :=
  vs.length = ks.length ∧ (∀ i : Nat, ks[i]? = some none → vs[i]? = some .none) ∧ ∀ (i j k l : Nat), ks[i]? = some (some k) → ks[j]? = some (some l) → ∃ (a b : Addr) (t u v t' u' v' : Tok), vs[i]? = some (.ref a) ∧ vs[j]? = some (.ref b) ∧ (a, colO k t u v) ∈ led ∧ (b, colO l t' u' v') ∈ led ∧ (t < n ∧ u < n ∧ v < n) ∧ (t' < n ∧ u' < n ∧ v' < n) ∧ TokOk k l t u v t' u' v'
theorem PileC.mono {led led' : Led} {n n' : Nat} {vs : List Value} {ks : List (Option Nat)} (h : ∀ p ∈ led, p ∈ led') (hn : n ≤ n') (C : PileC led n vs ks) : PileC led' n' vs ks :=
  ⟨C.1, C.2.1, fun i j k l hi hj => by
    obtain ⟨a, b, t, u, v, t', u', v', e1, e2, m1, m2, ⟨q1, q2, q3⟩, ⟨q4, q5, q6⟩, ok⟩ := C.2.2 i j k l hi hj
    exact ⟨a, b, t, u, v, t', u', v', e1, e2, h _ m1, h _ m2, ⟨Nat.lt_of_lt_of_le q1 hn, Nat.lt_of_lt_of_le q2 hn, Nat.lt_of_lt_of_le q3 hn⟩, ⟨Nat.lt_of_lt_of_le q4 hn, Nat.lt_of_lt_of_le q5 hn, Nat.lt_of_lt_of_le q6 hn⟩, ok⟩⟩
theorem PileC.nil {led : Led} {n : Nat} : PileC led n [] [] := ⟨rfl, (fun i h => by cases h), (fun i j k l hi _ => by cases hi)⟩
theorem PileC.non {led : Led} {n : Nat} {vs : List Value} {ks : List (Option Nat)} (C : PileC led n vs ks) : PileC led n (vs ++ [.none]) (ks ++ [none]) := by
  have el := C.1
  refine ⟨by rw [List.length_append, List.length_append, el]; rfl, fun i h => ?_, fun i j k l hi hj => ?_⟩
  · rcases snoc_get h with h | ⟨e, _⟩
    · exact snoc_old (C.2.1 i h)
    · rw [e, ← el]; exact snoc_last
  · rcases snoc_get hi with hI | ⟨_, e⟩ <;> rcases snoc_get hj with hJ | ⟨_, e'⟩
    · obtain ⟨a, b, t, u, v, t', u', v', e1, e2, r⟩ := C.2.2 i j k l hI hJ
      exact ⟨a, b, t, u, v, t', u', v', snoc_old e1, snoc_old e2, r⟩
    · cases e'
    · cases e
    · cases e
theorem PileC.snoc {led : Led} {n m : Nat} {vs : List Value} {ks : List (Option Nat)} {D : Addr} {k : Nat} {x y z : Tok} (C : PileC led n vs ks) (hn : 0 < n) (hm : (D, colO k x y z) ∈ led) (hx : n ≤ x ∧ x < m) (hy : n ≤ y ∧ y < m) (hz : n ≤ z ∧ z < m) : PileC led m (vs ++ [.ref D]) (ks ++ [some k]) := by
  have hnm : n ≤ m := Nat.le_trans hx.1 (Nat.le_of_lt hx.2)
  have nz : ∀ {t : Tok}, n ≤ t → t ≠ 0 := fun h e => by subst e; exact absurd hn (Nat.not_lt.mpr h)
  have ap : ∀ {t t' : Tok}, t < n → n ≤ t' → t ≠ t' := fun h h' e => by subst e; exact absurd h (Nat.not_lt.mpr h')
  have el := C.1
  have C' := PileC.mono (fun p hp => hp) hnm C
  refine ⟨by rw [List.length_append, List.length_append, el]; rfl, fun i h => ?_, fun i j k1 l1 hi hj => ?_⟩
  · rcases snoc_get h with h | ⟨_, e⟩
    · exact snoc_old (C.2.1 i h)
    · cases e
  · rcases snoc_get hi with hI | ⟨e1, e2⟩ <;> rcases snoc_get hj with hJ | ⟨e3, e4⟩ <;> clear hi hj
    · obtain ⟨a, b, t, u, v, t', u', v', e1, e2, r⟩ := C'.2.2 i j k1 l1 hI hJ
      exact ⟨a, b, t, u, v, t', u', v', snoc_old e1, snoc_old e2, r⟩
    · obtain ⟨a, b, t, u, v, t', u', v', e1, e2, m1, m2, ⟨q1, q2, q3⟩, _, ok⟩ := C.2.2 i i k1 k1 hI hI
      cases e4
      subst e3
      exact ⟨a, D, t, u, v, x, y, z, snoc_old e1, by rw [← el]; exact snoc_last, m1, hm, ⟨Nat.lt_of_lt_of_le q1 hnm, Nat.lt_of_lt_of_le q2 hnm, Nat.lt_of_lt_of_le q3 hnm⟩, ⟨hx.2, hy.2, hz.2⟩, ok.1, ok.2.1, ok.2.2.1, nz hx.1, nz hy.1, nz hz.1, fun _ => ⟨ap q1 hx.1, ap q2 hy.1, ap q3 hz.1⟩⟩
    · obtain ⟨a, b, t, u, v, t', u', v', e5, e6, m1, m2, ⟨q1, q2, q3⟩, _, ok⟩ := C.2.2 j j l1 l1 hJ hJ
      cases e2
      subst e1
      exact ⟨D, a, x, y, z, t, u, v, by rw [← el]; exact snoc_last, snoc_old e5, hm, m1, ⟨hx.2, hy.2, hz.2⟩, ⟨Nat.lt_of_lt_of_le q1 hnm, Nat.lt_of_lt_of_le q2 hnm, Nat.lt_of_lt_of_le q3 hnm⟩, nz hx.1, nz hy.1, nz hz.1, ok.1, ok.2.1, ok.2.2.1, fun _ => ⟨(ap q1 hx.1).symm, (ap q2 hy.1).symm, (ap q3 hz.1).symm⟩⟩
    · cases e2
      cases e4
      subst e1
      subst e3
      exact ⟨D, D, x, y, z, x, y, z, by rw [← el]; exact snoc_last, by rw [← el]; exact snoc_last, hm, hm, ⟨hx.2, hy.2, hz.2⟩, ⟨hx.2, hy.2, hz.2⟩, nz hx.1, nz hy.1, nz hz.1, nz hx.1, nz hy.1, nz hz.1, fun h => absurd rfl h⟩
theorem list_snoc {α : Type} : ∀ {l : List α}, l ≠ [] → ∃ p y, l = p ++ [y]
  | [], h => absurd rfl h
  | [a], _ => ⟨[], a, rfl⟩
  | a :: b :: l, _ => by
    obtain ⟨p, y, e⟩ := list_snoc (l := b :: l) (List.cons_ne_nil _ _)
    exact ⟨a :: p, y, by rw [e]; rfl⟩
/-- the uppermost taken off -/
theorem PileC.pop {led : Led} {n : Nat} {vs : List Value} {ks : List (Option Nat)} {k : Option Nat} (C : PileC led n vs (ks ++ [k])) : ∃ p y, vs = p ++ [y] ∧ PileC led n p ks ∧ (k = none → y = .none) := by
  obtain ⟨p, y, rfl⟩ := list_snoc (l := vs) (fun e => by have h := C.1; rw [e, List.length_append] at h; cases h)
  have el : p.length = ks.length := by
    have h := C.1
    rw [List.length_append, List.length_append] at h
    exact Nat.succ.inj h
  have back : ∀ {i : Nat} {v : Value}, i < ks.length → (p ++ [y])[i]? = some v → p[i]? = some v := fun hi h => by rwa [List.getElem?_append_left (by rw [el]; exact hi)] at h
  refine ⟨p, y, rfl, ⟨el, fun i h => back (List.getElem?_eq_some_iff.mp h).1 (C.2.1 i (snoc_old h)), fun i j k l hi hj => ?_⟩, fun e => ?_⟩
  · obtain ⟨a, b, t, u, v, t', u', v', e1, e2, r⟩ := C.2.2 i j k l (snoc_old hi) (snoc_old hj)
    exact ⟨a, b, t, u, v, t', u', v', back (List.getElem?_eq_some_iff.mp hi).1 e1, back (List.getElem?_eq_some_iff.mp hj).1 e2, r⟩
  · subst e
    have h := C.2.1 ks.length snoc_last
    rw [← el] at h
    exact Option.some.inj (snoc_last.symm.trans h)
end Mine
namespace Mine
/-- two colours mixed; None where they are alike or one is None -/
noncomputable def mixO : Option Nat → Option Nat → Option Nat
  | some i, some j => if i = j then none else some (mixK i j)
  | _, _ => none
/-- does the sign change -/
noncomputable def sgO : Option Nat → Option Nat → Int
  | some i, some j => if i = j then 0 else if (i + 1) % 3 = j then 0 else 1
  | _, _ => 0
noncomputable def colGo : List Nat → List (Option Nat) → Int → Option (List (Option Nat) × Int)
  | [], st, n => some (st, n)
  | c :: r, st, n => if c = 41 then (if st.length < 2 then none else colGo r (mixO (st.getD 1 none) (st.getD 0 none) :: st.drop 2) (n + sgO (st.getD 1 none) (st.getD 0 none))) else if c = 40 then colGo r st n else colGo r (some (ixOf c) :: st) n
theorem colGo_41 {r : List Nat} {st : List (Option Nat)} {n : Int} {R : List (Option Nat) × Int} (h : colGo (41 :: r) st n = some R) : ∃ a b s, st = b :: a :: s ∧ colGo r (mixO a b :: s) (n + sgO a b) = some R := by
  rw [colGo, if_pos rfl] at h
  match st, h with
  | [], h => rw [if_pos (by decide)] at h; cases h
  | [_], h => rw [if_pos (by show 1 < 2; decide)] at h; cases h
  | b :: a :: s, h =>
    rw [if_neg (by rw [List.length_cons, List.length_cons]; omega)] at h
    exact ⟨a, b, s, rfl, h⟩
theorem colGo_40 {r : List Nat} {st : List (Option Nat)} {n : Int} : colGo (40 :: r) st n = colGo r st n := by rw [colGo, if_neg (by decide), if_pos rfl]
theorem colGo_l {c : Nat} {r : List Nat} {st : List (Option Nat)} {n : Int} (hc : c = 114 ∨ c = 103 ∨ c = 98) : colGo (c :: r) st n = colGo r (some (ixOf c) :: st) n := by
  rcases hc with rfl | rfl | rfl <;> rw [colGo, if_neg (by decide), if_neg (by decide)]
noncomputable def isSg (c : Nat) : Prop := c = 40 ∨ c = 41 ∨ c = 114 ∨ c = 103 ∨ c = 98
noncomputable def letO : Option Nat → PySem.Str
  | none => PySem.Str.ofString ""
  | some k => one1 (letN k)
noncomputable def CkP (I : Addr) (news : Led) (R : List (Option Nat) × Int) (cs : List Nat) (n : Nat) (m : PySem.Str → Option Value) (nw : Led) : Prop :=
  ∀ C : Led → Prop, (∀ (st : List (Option Nat)) (Dp : Addr) (pv : List Value) (np : Nat) (led : Led) (mi : Int) (tm : Tok), colGo cs st mi = some R → PileC led n pv st.reverse → 0 < n → (∀ k, some k ∈ st → k < 3) → (∀ q ∈ led ++ news, q.1 ≠ I ∧ q.1 ≠ Dp) → @Ne Nat Dp I → st.length + cs.length ≤ 100 → (∀ c ∈ cs, isSg c) → m (PySem.Str.ofString "pile") = some (.ref Dp) → m (PySem.Str.ofString "minus") = some (.int mi tm) →
    C ((Dp, W.listOf pv.toArray np) :: (led ++ news))) → C nw
theorem my_inL {prog : PySem.Program} {w : World} {A : Around} {E : Value → Shared → Prop} {s : Shared} {Q : Value → Shared → Prop} {t u : Tok} {c : Nat} (hc : c = 114 ∨ c = 103 ∨ c = 98) (h : Q (.bool true) s) : wpAny (model prog w) A (compareOp .In (.str (one1 c) u) (.str (PySem.Str.ofString "rgb") t)) Q E s := by
  refine PySem.P.in_str ?_
  rcases hc with rfl | rfl | rfl
  · rw [show (!(Builtin.Str.occurrences (PySem.Str.ofString "rgb") (one1 114) 0 (PySem.Str.ofString "rgb").length 1).isEmpty) = true by decide +kernel]; exact h
  · rw [show (!(Builtin.Str.occurrences (PySem.Str.ofString "rgb") (one1 103) 0 (PySem.Str.ofString "rgb").length 1).isEmpty) = true by decide +kernel]; exact h
  · rw [show (!(Builtin.Str.occurrences (PySem.Str.ofString "rgb") (one1 98) 0 (PySem.Str.ofString "rgb").length 1).isEmpty) = true by decide +kernel]; exact h
theorem my_inN {prog : PySem.Program} {w : World} {A : Around} {E : Value → Shared → Prop} {s : Shared} {Q : Value → Shared → Prop} {t u : Tok} {c : Nat} (hc : c = 40 ∨ c = 41) (h : Q (.bool false) s) : wpAny (model prog w) A (compareOp .In (.str (one1 c) u) (.str (PySem.Str.ofString "rgb") t)) Q E s := by
  refine PySem.P.in_str ?_
  rcases hc with rfl | rfl
  · rw [show (!(Builtin.Str.occurrences (PySem.Str.ofString "rgb") (one1 40) 0 (PySem.Str.ofString "rgb").length 1).isEmpty) = false by decide +kernel]; exact h
  · rw [show (!(Builtin.Str.occurrences (PySem.Str.ofString "rgb") (one1 41) 0 (PySem.Str.ofString "rgb").length 1).isEmpty) = false by decide +kernel]; exact h
theorem ixOf_lt {c : Nat} : ixOf c < 3 := by unfold ixOf; (repeat' split) <;> decide
end Mine
namespace Mine
theorem my_findG {prog : PySem.Program} {w : World} {A : Around} {E : Value → Shared → Prop} {s : Shared} {Q : Value → Shared → Prop} {t u : Tok} {c : Nat} (hc : c = 114 ∨ c = 103 ∨ c = 98) (h : ∀ t' k, s.toks ≤ k → Q (.int ((ixOf c : Nat) : Int) t') { s with toks := k }) : wpAny (model prog w) A (call (.builtin "str.find") [.str (PySem.Str.ofString "rgb") t, .str (one1 c) u]) Q E s :=
  wpAny_grow (my_findL hc fun t' k hle => h t' k hle)
end Mine
namespace Mine
/-- the two uppermost -/
theorem PileC.two {led : Led} {n : Nat} {p : List Value} {y2 y1 : Value} {ks : List (Option Nat)} {i j : Nat} (C : PileC led n ((p ++ [y2]) ++ [y1]) ((ks ++ [some i]) ++ [some j])) :
    ∃ (a b : Addr) (t u v t' u' v' : Tok), y2 = .ref a ∧ y1 = .ref b ∧ (a, colO i t u v) ∈ led ∧ (b, colO j t' u' v') ∈ led ∧ (t < n ∧ u < n ∧ v < n) ∧ (t' < n ∧ u' < n ∧ v' < n) ∧ TokOk i j t u v t' u' v' := by
  have el : p.length = ks.length := by
    have h := C.1
    simp only [List.length_append, List.length_singleton] at h
    omega
  obtain ⟨a, b, t, u, v, t', u', v', e1, e2, r⟩ := C.2.2 ks.length (ks ++ [some i]).length i j (snoc_old snoc_last) snoc_last
  rw [← el] at e1
  rw [show (ks ++ [some i]).length = (p ++ [y2]).length by rw [List.length_append, List.length_append, el]; rfl] at e2
  exact ⟨a, b, t, u, v, t', u', v', Option.some.inj ((snoc_old snoc_last).symm.trans e1), Option.some.inj (snoc_last.symm.trans e2), r⟩
theorem PileC.one {led : Led} {n : Nat} {p : List Value} {y : Value} {ks : List (Option Nat)} {i : Nat} (C : PileC led n (p ++ [y]) (ks ++ [some i])) : ∃ (a : Addr) (t u v : Tok), y = .ref a ∧ (a, colO i t u v) ∈ led ∧ (t < n ∧ u < n ∧ v < n) ∧ (t ≠ 0 ∧ u ≠ 0 ∧ v ≠ 0) := by
  have el : p.length = ks.length := by
    have h := C.1
    simp only [List.length_append, List.length_singleton] at h
    omega
  obtain ⟨a, b, t, u, v, t', u', v', e1, e2, m1, _, q1, _, ok⟩ := C.2.2 ks.length ks.length i i snoc_last snoc_last
  rw [← el] at e1
  exact ⟨a, t, u, v, Option.some.inj (snoc_last.symm.trans e1), m1, q1, ok.1, ok.2.1, ok.2.2.1⟩
theorem k3_snoc {c : Nat} {st : List (Option Nat)} (h : ∀ k, some k ∈ st → k < 3) : ∀ k, some k ∈ (some (ixOf c) :: st) → k < 3 := fun k hk => by
  rcases List.mem_cons.mp hk with e | hk
  · rw [Option.some.inj e]; exact ixOf_lt
  · exact h k hk
end Mine
namespace Mine
theorem ne_col {prog : PySem.Program} {w : World} {A : Around} {E : Value → Shared → Prop} {s : Shared} {h₀ : Heap} {L a b : Addr} {news : Led} {Q : Value → Shared → Prop} {i j : Nat} {K : Frag} {t u v t' u' v' : Tok} (X : K.In s.heap) (e : nsIn K cStatics sharingNotToldKey = some none) (N : News h₀ L s.heap news) (ha : (a, colO i t u v) ∈ news) (hb : (b, colO j t' u' v') ∈ news) (hi : i < 3) (hj : j < 3) (ok : TokOk i j t u v t' u' v') (hu : A.units < cLine)
    (h : Q (.bool (!decide (i = j))) s) : wpAny (model prog w) A (compareOp .NotEq (.ref a) (.ref b)) Q E s := by
  have z : RcNeAt A s (.ref a) (.ref b) (!(cmpC i j && true)) := RcNeAt.tuples (A := A) (isTup_of N ha) (isTup_of N hb) hu (col_elem X e hi hj ok)
  rw [Bool.and_true, cmpC_eq hi hj] at z
  exact z prog w E Q h
theorem col_none {r : List Nat} {b : Option Nat} {s : List (Option Nat)} {mi : Int} {R : List (Option Nat) × Int} (h : colGo r (mixO none b :: s) (mi + sgO none b) = some R) : colGo r (none :: s) mi = some R := by
  have e : sgO none b = 0 := rfl
  rw [e, Int.add_zero] at h; exact h
theorem col_none2 {r : List Nat} {a : Option Nat} {s : List (Option Nat)} {mi : Int} {R : List (Option Nat) × Int} (h : colGo r (mixO a none :: s) (mi + sgO a none) = some R) : colGo r (none :: s) mi = some R := by
  have e : sgO a none = 0 := by cases a <;> rfl
  have e2 : mixO a none = none := by cases a <;> rfl
  rw [e, e2, Int.add_zero] at h; exact h
theorem col_same {r : List Nat} {i : Nat} {s : List (Option Nat)} {mi : Int} {R : List (Option Nat) × Int} (h : colGo r (mixO (some i) (some i) :: s) (mi + sgO (some i) (some i)) = some R) : colGo r (none :: s) mi = some R := by
  have e : sgO (some i) (some i) = 0 := if_pos rfl
  have e2 : mixO (some i) (some i) = none := if_pos rfl
  rw [e, e2, Int.add_zero] at h; exact h
theorem col_mix {r : List Nat} {i j : Nat} (hij : ¬ i = j) {s : List (Option Nat)} {mi : Int} {R : List (Option Nat) × Int} (h : colGo r (mixO (some i) (some j) :: s) (mi + sgO (some i) (some j)) = some R) : colGo r (some (mixK i j) :: s) (mi + if (i + 1) % 3 = j then 0 else 1) = some R := by
  have e : sgO (some i) (some j) = if (i + 1) % 3 = j then 0 else 1 := if_neg hij
  have e2 : mixO (some i) (some j) = some (mixK i j) := if_neg hij
  rw [e, e2] at h; exact h
theorem k3_non {a b : Option Nat} {st : List (Option Nat)} (h : ∀ k, some k ∈ b :: a :: st → k < 3) : ∀ k, some k ∈ (none :: st) → k < 3 := fun k hk => by
  rcases List.mem_cons.mp hk with e | hk
  · cases e
  · exact h k (.tail _ (.tail _ hk))
theorem k3_mix {a b : Option Nat} {c : Nat} {st : List (Option Nat)} (hc : c < 3) (h : ∀ k, some k ∈ b :: a :: st → k < 3) : ∀ k, some k ∈ (some c :: st) → k < 3 := fun k hk => by
  rcases List.mem_cons.mp hk with e | hk
  · rw [Option.some.inj e]; exact hc
  · exact h k (.tail _ (.tail _ hk))
theorem mixu1 {i j : Nat} (hi : i < 3) (hj : j < 3) (h : ¬ i = j) : Float64.add (rgbOf (2 * i)).1 (rgbOf (2 * j)).1 = (rgbOf (mixIx i j)).1 := all33 (P := fun i j => ¬ i = j → Float64.add (rgbOf (2 * i)).1 (rgbOf (2 * j)).1 = (rgbOf (mixIx i j)).1) (by decide +kernel) hi hj h
theorem mixu2 {i j : Nat} (hi : i < 3) (hj : j < 3) (h : ¬ i = j) : Float64.add (rgbOf (2 * i)).2.1 (rgbOf (2 * j)).2.1 = (rgbOf (mixIx i j)).2.1 := all33 (P := fun i j => ¬ i = j → Float64.add (rgbOf (2 * i)).2.1 (rgbOf (2 * j)).2.1 = (rgbOf (mixIx i j)).2.1) (by decide +kernel) hi hj h
theorem mixu3 {i j : Nat} (hi : i < 3) (hj : j < 3) (h : ¬ i = j) : Float64.add (rgbOf (2 * i)).2.2 (rgbOf (2 * j)).2.2 = (rgbOf (mixIx i j)).2.2 := all33 (P := fun i j => ¬ i = j → Float64.add (rgbOf (2 * i)).2.2 (rgbOf (2 * j)).2.2 = (rgbOf (mixIx i j)).2.2) (by decide +kernel) hi hj h
theorem mixu6 {i j : Nat} (hi : i < 3) (hj : j < 3) (h : ¬ i = j) : (((mixIx i j : Nat) : Int) + 3).fmod 6 = ((2 * mixK i j : Nat) : Int) := all33 (P := fun i j => ¬ i = j → (((mixIx i j : Nat) : Int) + 3).fmod 6 = ((2 * mixK i j : Nat) : Int)) (by decide +kernel) hi hj h
theorem turn6 {i : Nat} (hi : i < 3) : (((2 * i : Nat) : Int) + 2).fmod 6 = ((2 * ((i + 1) % 3) : Nat) : Int) := by
  rcases lt3 hi with rfl | rfl | rfl <;> decide +kernel
end Mine
namespace Mine
theorem my_tixM {prog : PySem.Program} {w : World} {A : Around} {E : Value → Shared → Prop} {s : Shared} {h₀ : Heap} {L a : Addr} {news : Led} {Q : Value × List Value → Shared → Prop} {vs : List Value} {pl : Sem Bool} (N : News h₀ L s.heap news) (hm : (a, tup vs) ∈ news) (h : Q (.builtin "tuple.index", [.ref a]) s) : wpAny (model prog w) A (getMethod (.ref a) (PySem.Str.ofString "index") pl) Q E s :=
  getMethod_builtin ⟨_, (N _ hm).1, rfl⟩ PySem.F.plainAttrs_tuple PySem.F.slot_tuple_index PySem.F.type_tuple_index (fun a e => by cases e; exact ⟨_, (N _ hm).1, rfl⟩) h
end Mine
end
section
open PySem PySem.W PyProof.Rows PySem.Calls PySem.Spec
namespace Mine
/-- a word with brackets -/
inductive Tr where
  | lf (c : Nat)
  | nd (l r : Tr)
noncomputable def Tr.text : Tr → List Nat
  | .lf c => [c]
  | .nd l r => 40 :: (l.text ++ (r.text ++ [41]))
noncomputable def Tr.leaves : Tr → List Nat
  | .lf c => [c]
  | .nd l r => l.leaves ++ r.leaves
noncomputable def Tr.chords : Tr → Nat → List (Nat × Nat)
  | .lf _, _ => []
  | .nd l r, p => l.chords p ++ (r.chords (p + l.leaves.length) ++ [(p, p + l.leaves.length + r.leaves.length)])
noncomputable def isL (c : Nat) : Prop := c = 114 ∨ c = 103 ∨ c = 98
/-- the brackets' chords are the tree's -/
theorem chGo_text : ∀ (T : Tr) (r : List Nat) (st : List Nat) (p : Nat) (acc : List (Nat × Nat)), (∀ c ∈ T.leaves, isL c) → chGo (T.text ++ r) st p acc = chGo r st (p + T.leaves.length) (acc ++ T.chords p)
  | .lf c, r, st, p, acc, h => by
    have hc := h c (.head _)
    show chGo (c :: r) st p acc = chGo r st (p + 1) (acc ++ [])
    rw [List.append_nil, chGo_else (by rcases hc with rfl | rfl | rfl <;> decide) (by rcases hc with rfl | rfl | rfl <;> decide)]
  | .nd l q, r, st, p, acc, h => by
    have hl : ∀ c ∈ l.leaves, isL c := fun c hc => h c (List.mem_append_left _ hc)
    have hq : ∀ c ∈ q.leaves, isL c := fun c hc => h c (List.mem_append_right _ hc)
    show chGo (40 :: (l.text ++ (q.text ++ [41])) ++ r) st p acc = chGo r st (p + (l.leaves ++ q.leaves).length) (acc ++ (l.chords p ++ (q.chords (p + l.leaves.length) ++ [(p, p + l.leaves.length + q.leaves.length)])))
    rw [List.cons_append, chGo_open, List.append_assoc, chGo_text l _ _ _ _ hl, List.append_assoc, chGo_text q _ _ _ _ hq, List.singleton_append, chGo_shut, List.length_append, Nat.add_assoc]
    simp only [List.append_assoc]
/-- what the colours make of a tree -/
noncomputable def Tr.col : Tr → Option Nat
  | .lf c => some (ixOf c)
  | .nd l r => mixO l.col r.col
noncomputable def Tr.sg : Tr → Int
  | .lf _ => 0
  | .nd l r => l.sg + r.sg + sgO l.col r.col
theorem colGo_pair {r : List Nat} {a b : Option Nat} {s : List (Option Nat)} {n : Int} : colGo (41 :: r) (b :: a :: s) n = colGo r (mixO a b :: s) (n + sgO a b) := by
  rw [colGo, if_pos rfl, if_neg (by rw [List.length_cons, List.length_cons]; omega)]; rfl
theorem colGo_text : ∀ (T : Tr) (r : List Nat) (st : List (Option Nat)) (n : Int), (∀ c ∈ T.leaves, isL c) → colGo (T.text ++ r) st n = colGo r (T.col :: st) (n + T.sg)
  | .lf c, r, st, n, h => by
    show colGo (c :: r) st n = colGo r (some (ixOf c) :: st) (n + 0)
    rw [colGo_l (h c (.head _)), Int.add_zero]
  | .nd l q, r, st, n, h => by
    have hl : ∀ c ∈ l.leaves, isL c := fun c hc => h c (List.mem_append_left _ hc)
    have hq : ∀ c ∈ q.leaves, isL c := fun c hc => h c (List.mem_append_right _ hc)
    show colGo (40 :: (l.text ++ (q.text ++ [41])) ++ r) st n = colGo r (mixO l.col q.col :: st) (n + (l.sg + q.sg + sgO l.col q.col))
    rw [List.cons_append, colGo_40, List.append_assoc, colGo_text l _ _ _ hl, List.append_assoc, colGo_text q _ _ _ hq, List.singleton_append, colGo_pair]
    rw [show n + l.sg + q.sg + sgO l.col q.col = n + (l.sg + q.sg + sgO l.col q.col) by omega]
end Mine
namespace Mine
noncomputable def textS (T : Tr) : PySem.Str := ⟨T.text.toArray⟩
noncomputable def nestT : Nat → Int → List Tr → List Tr
  | 0, _, ts => ts
  | k + 1, x, ts => nestT k (x.fdiv ((k + 1 : Nat) : Int)) (ts.take (x.fmod ((k + 1 : Nat) : Int)).toNat ++ [.nd (ts.getD (x.fmod ((k + 1 : Nat) : Int)).toNat (.lf 0)) (ts.getD (x.fmod ((k + 1 : Nat) : Int) + 1).toNat (.lf 0))] ++ ts.drop (x.fmod ((k + 1 : Nat) : Int) + 2).toNat)
theorem parS_text (a b : Tr) : parS (textS a) (textS b) = textS (.nd a b) := by
  refine cps_eq ?_
  simp only [parS, textS, PySem.Str.cps_append, Array.toList_append]
  show [40] ++ a.text ++ b.text ++ [41] = 40 :: (a.text ++ (b.text ++ [41]))
  rw [List.append_assoc, List.append_assoc]
  rfl
theorem getD_map {ts : List Tr} {j : Nat} (h : j < ts.length) : (ts.map textS).getD j PySem.Str.empty = textS (ts.getD j (.lf 0)) := by
  rw [List.getD_eq_getElem?_getD, List.getD_eq_getElem?_getD, List.getElem?_map, List.getElem?_eq_getElem h]; rfl
theorem nestGo_map : ∀ (k : Nat) (x : Int) (ts : List Tr), ts.length = k + 1 → nestGo k x (ts.map textS) = (nestT k x ts).map textS
  | 0, _, _, _ => rfl
  | k + 1, x, ts, h => by
    obtain ⟨f0, f1⟩ := fmod_ok x k
    rw [nestGo, nestT, getD_map (by omega), getD_map (by omega), parS_text]
    rw [← nestGo_map k _ _ (by simp only [List.length_append, List.length_take, List.length_drop, List.length_singleton, h]; omega)]
    simp only [List.map_append, List.map_take, List.map_drop, List.map_cons, List.map_nil]
/-- the leaves of all, in a row -/
noncomputable def leavesL : List Tr → List Nat
  | [] => []
  | t :: r => t.leaves ++ leavesL r
theorem leavesL_app : ∀ a b : List Tr, leavesL (a ++ b) = leavesL a ++ leavesL b
  | [], _ => rfl
  | t :: a, b => by
    show t.leaves ++ leavesL (a ++ b) = (t.leaves ++ leavesL a) ++ leavesL b
    rw [leavesL_app a b, List.append_assoc]
theorem split2 {ts : List Tr} {j : Nat} (h : j + 1 < ts.length) : ts = ts.take j ++ (ts.getD j (.lf 0) :: ts.getD (j + 1) (.lf 0) :: ts.drop (j + 2)) := by
  rw [List.getD_eq_getElem?_getD, List.getD_eq_getElem?_getD, List.getElem?_eq_getElem (by omega), List.getElem?_eq_getElem h, Option.getD_some, Option.getD_some]
  rw [← List.drop_eq_getElem_cons h, ← List.drop_eq_getElem_cons (by omega), List.take_append_drop]
theorem nestT_leaves : ∀ (k : Nat) (x : Int) (ts : List Tr), ts.length = k + 1 → leavesL (nestT k x ts) = leavesL ts ∧ (nestT k x ts).length = 1
  | 0, _, ts, h => ⟨rfl, h⟩
  | k + 1, x, ts, h => by
    obtain ⟨f0, f1⟩ := fmod_ok x k
    obtain ⟨j, hj⟩ := Int.eq_ofNat_of_zero_le f0
    have e1 : (x.fmod ((k + 1 : Nat) : Int)).toNat = j := by omega
    have e2 : (x.fmod ((k + 1 : Nat) : Int) + 1).toNat = j + 1 := by omega
    have e3 : (x.fmod ((k + 1 : Nat) : Int) + 2).toNat = j + 2 := by omega
    rw [nestT, e1, e2, e3]
    have ih := nestT_leaves k (x.fdiv ((k + 1 : Nat) : Int)) (ts.take j ++ [.nd (ts.getD j (.lf 0)) (ts.getD (j + 1) (.lf 0))] ++ ts.drop (j + 2)) (by simp only [List.length_append, List.length_take, List.length_drop, List.length_singleton, h]; omega)
    refine ⟨ih.1.trans ?_, ih.2⟩
    have s := congrArg leavesL (split2 (ts := ts) (j := j) (by omega))
    rw [leavesL_app] at s
    rw [s, leavesL_app, leavesL_app, List.append_assoc]
    show _ ++ (((ts.getD j (.lf 0)).leaves ++ (ts.getD (j + 1) (.lf 0)).leaves) ++ [] ++ leavesL (ts.drop (j + 2))) = _ ++ ((ts.getD j (.lf 0)).leaves ++ ((ts.getD (j + 1) (.lf 0)).leaves ++ leavesL (ts.drop (j + 2))))
    rw [List.append_nil, List.append_assoc]
end Mine
namespace Mine
/-- the tree that a number picks, over five leaves -/
noncomputable def treeOf (a b c d e : Nat) (x : Int) : Tr := (nestT 4 x [.lf a, .lf b, .lf c, .lf d, .lf e]).getD 0 (.lf 0)
theorem nestF_tree (a b c d e : Nat) (x : Int) : nestF ⟨#[a, b, c, d, e]⟩ x = textS (treeOf a b c d e x) := by
  have h := nestGo_map 4 x [.lf a, .lf b, .lf c, .lf d, .lf e] rfl
  have hl := (nestT_leaves 4 x [.lf a, .lf b, .lf c, .lf d, .lf e] rfl).2
  rw [nestF]
  show (nestGo 4 x ([.lf a, .lf b, .lf c, .lf d, .lf e].map textS)).getD 0 PySem.Str.empty = _
  rw [h, getD_map (by rw [hl]; decide)]; rfl
theorem treeOf_leaves (a b c d e : Nat) (x : Int) : (treeOf a b c d e x).leaves = [a, b, c, d, e] := by
  have h := nestT_leaves 4 x [.lf a, .lf b, .lf c, .lf d, .lf e] rfl
  unfold treeOf
  match nestT 4 x [.lf a, .lf b, .lf c, .lf d, .lf e], h with
  | [t], h =>
    have e1 : t.leaves ++ [] = leavesL [.lf a, .lf b, .lf c, .lf d, .lf e] := h.1
    rw [List.append_nil] at e1
    exact e1
/-- at the root lies the chord over all -/
theorem root_chord : ∀ T : Tr, 2 ≤ T.leaves.length → (0, T.leaves.length) ∈ T.chords 0
  | .lf _, h => absurd h (by show ¬ 2 ≤ 1; decide)
  | .nd l r, _ => by
    show (0, (l.leaves ++ r.leaves).length) ∈ l.chords 0 ++ (r.chords (0 + l.leaves.length) ++ [(0, 0 + l.leaves.length + r.leaves.length)])
    rw [List.length_append, Nat.zero_add]
    exact List.mem_append_right _ (List.mem_append_right _ (.head _))
theorem chords_lt : ∀ (T : Tr) (p : Nat) (q : Nat × Nat), q ∈ T.chords p → p ≤ q.1 ∧ q.1 < q.2 ∧ q.2 ≤ p + T.leaves.length
  | .lf _, p, q, h => nomatch h
  | .nd l r, p, q, h => by
    have pos : ∀ T : Tr, 0 < T.leaves.length := by
      intro T
      induction T with
      | lf c => exact Nat.succ_pos 0
      | nd a b iha _ =>
        show 0 < (a.leaves ++ b.leaves).length
        rw [List.length_append]; omega
    have hp := pos l
    have hr := pos r
    have e : (Tr.nd l r).leaves.length = l.leaves.length + r.leaves.length := List.length_append
    rw [e]
    rcases List.mem_append.mp h with h | h
    · have := chords_lt l p q h; omega
    · rcases List.mem_append.mp h with h | h
      · have := chords_lt r (p + l.leaves.length) q h; omega
      · rw [List.mem_singleton.mp h]
        show p ≤ p ∧ p < p + l.leaves.length + r.leaves.length ∧ p + l.leaves.length + r.leaves.length ≤ _
        omega
end Mine
end
section
open PySem PySem.W PyProof.Rows PySem.Calls PySem.Spec
namespace Mine
/-- a potential: what a pair of corners adds to the sign's parity -/
noncomputable def aP (x y : Nat) : Int := if (x = 0 ∧ (y = 2 ∨ y = 3)) ∨ (x = 1 ∧ (y = 0 ∨ y = 3)) ∨ (x = 2 ∧ (y = 1 ∨ y = 3)) then 1 else 0
noncomputable def LvOk (co : Nat → Nat) : Nat → List Nat → Prop
  | _, [] => True
  | p, c :: r => (co p ≠ co (p + 1) ∧ ixOf c = (co p ^^^ co (p + 1)) - 1) ∧ LvOk co (p + 1) r
noncomputable def potL (co : Nat → Nat) : Nat → List Nat → Int
  | _, [] => 0
  | p, _ :: r => aP (co p) (co (p + 1)) + potL co (p + 1) r
theorem LvOk.app {co : Nat → Nat} : ∀ {a b : List Nat} {p : Nat}, LvOk co p (a ++ b) → LvOk co p a ∧ LvOk co (p + a.length) b
  | [], _, _, h => ⟨True.intro, h⟩
  | c :: a, b, p, h => by
    have i := LvOk.app (a := a) (b := b) h.2
    refine ⟨⟨h.1, i.1⟩, ?_⟩
    rw [List.length_cons, show p + (a.length + 1) = p + 1 + a.length by omega]
    exact i.2
theorem potL_app {co : Nat → Nat} : ∀ {a b : List Nat} {p : Nat}, potL co p (a ++ b) = potL co p a + potL co (p + a.length) b
  | [], _, _ => (Int.zero_add _).symm
  | c :: a, b, p => by
    show aP _ _ + potL co (p + 1) (a ++ b) = aP _ _ + potL co (p + 1) a + potL co (p + (a.length + 1)) b
    rw [potL_app, show p + (a.length + 1) = p + 1 + a.length by omega, Int.add_assoc]
set_option synthInstance.maxSize 2000 in
set_option synthInstance.maxHeartbeats 400000 in
theorem sg_tab : ∀ x, x < 4 → ∀ y, y < 4 → ∀ z, z < 4 → x ≠ y → y ≠ z → x ≠ z → mixO (some ((x ^^^ y) - 1)) (some ((y ^^^ z) - 1)) = some ((x ^^^ z) - 1) ∧ (sgO (some ((x ^^^ y) - 1)) (some ((y ^^^ z) - 1)) + aP x y + aP y z - aP x z) % 2 = 0 := by decide +kernel
theorem mix_none {x y : Nat} : mixO (some ((x ^^^ y) - 1)) (some ((y ^^^ x) - 1)) = none := by rw [Nat.xor_comm y x]; exact if_pos rfl
/-- what the colours make of a tree is what its corners tell -/
theorem tree_told {co : Nat → Nat} (h4 : ∀ i, co i < 4) : ∀ (T : Tr) (p : Nat), LvOk co p T.leaves →
    (T.col = none ∧ ∃ q ∈ T.chords p, co q.1 = co q.2) ∨ (T.col = some ((co p ^^^ co (p + T.leaves.length)) - 1) ∧ co p ≠ co (p + T.leaves.length) ∧ (∀ q ∈ T.chords p, co q.1 ≠ co q.2) ∧ (T.sg - potL co p T.leaves - aP (co p) (co (p + T.leaves.length))) % 2 = 0)
  | .lf c, p, h => by
    refine .inr ⟨congrArg some h.1.2, h.1.1, fun q hq => (nomatch hq), ?_⟩
    show ((0 : Int) - (aP (co p) (co (p + 1)) + 0) - aP (co p) (co (p + 1))) % 2 = 0
    omega
  | .nd l r, p, h => by
    obtain ⟨hl, hr⟩ := LvOk.app (a := l.leaves) (b := r.leaves) h
    have il := tree_told h4 l p hl
    have ir := tree_told h4 r (p + l.leaves.length) hr
    have e : (Tr.nd l r).leaves.length = l.leaves.length + r.leaves.length := List.length_append
    rw [e, ← Nat.add_assoc]
    show (mixO l.col r.col = none ∧ ∃ q ∈ l.chords p ++ (r.chords (p + l.leaves.length) ++ [(p, p + l.leaves.length + r.leaves.length)]), co q.1 = co q.2) ∨ (mixO l.col r.col = _ ∧ _ ∧ (∀ q ∈ l.chords p ++ (r.chords (p + l.leaves.length) ++ [(p, p + l.leaves.length + r.leaves.length)]), co q.1 ≠ co q.2) ∧ (l.sg + r.sg + sgO l.col r.col - potL co p (l.leaves ++ r.leaves) - _) % 2 = 0)
    rcases il with ⟨il, q, hq, eq⟩ | ⟨cl, nl, ql, sl⟩
    · exact .inl ⟨by rw [il]; rfl, q, List.mem_append_left _ hq, eq⟩
    rcases ir with ⟨ir, q, hq, eq⟩ | ⟨cr, nr, qr, sr⟩
    · exact .inl ⟨by rw [ir]; cases l.col <;> rfl, q, List.mem_append_right _ (List.mem_append_left _ hq), eq⟩
    rcases Nat.decEq (co p) (co (p + l.leaves.length + r.leaves.length)) with hne | he
    · obtain ⟨t1, t2⟩ := sg_tab _ (h4 p) _ (h4 (p + l.leaves.length)) _ (h4 (p + l.leaves.length + r.leaves.length)) nl nr hne
      refine .inr ⟨by rw [cl, cr]; exact t1, hne, fun q hq => ?_, ?_⟩
      · rcases List.mem_append.mp hq with hq | hq
        · exact ql q hq
        · rcases List.mem_append.mp hq with hq | hq
          · exact qr q hq
          · rw [List.mem_singleton.mp hq]; exact hne
      · rw [cl, cr, potL_app]
        omega
    · refine .inl ⟨?_, (p, p + l.leaves.length + r.leaves.length), List.mem_append_right _ (List.mem_append_right _ (.head _)), he⟩
      rw [cl, cr, ← he]
      exact mix_none
end Mine
end
section
open PySem PySem.W PyProof.Rows PySem.Calls PySem.Spec
open PySem.StrLaws PySem.Builtin.Str
namespace Mine
/-- how often a minus stands in it -/
noncomputable def cntM : List Nat → Nat
  | [] => 0
  | c :: r => (if c = 45 then 1 else 0) + cntM r
theorem pre1 {c : Nat} {r : List Nat} : [45].isPrefixOf (c :: r) = decide (c = 45) := by
  rw [List.isPrefixOf, List.isPrefixOf, Bool.and_true, Bool.eq_iff_iff, beq_iff_eq, decide_eq_true_iff]
  exact eq_comm
theorem cnt_gap : ∀ (j : Nat) (L : List Nat), (∀ k, k < j → ¬ [45].isPrefixOf (L.drop k) = true) → cntM L = cntM (L.drop j)
  | 0, _, _ => rfl
  | j + 1, [], _ => rfl
  | j + 1, c :: r, h => by
    have h0 := h 0 (Nat.succ_pos j)
    rw [List.drop_zero, pre1, decide_eq_true_iff] at h0
    rw [cntM, if_neg h0, Nat.zero_add, List.drop_succ_cons]
    exact cnt_gap j r fun k hk => h (k + 1) (Nat.succ_lt_succ hk)
theorem cnt_hit : ∀ (L : List Nat), [45].isPrefixOf L = true → cntM L = 1 + cntM (L.drop 1)
  | [], h => by cases h
  | c :: r, h => by
    rw [pre1, decide_eq_true_iff] at h
    rw [cntM, if_pos h]; rfl
theorem cnt_chain (x : PySem.Str) : ∀ (cuts : List Nat) (a f : Nat), ChainG x (St "-") x.length a cuts f → (∀ k, f ≤ k → ¬ At x (St "-") x.length k) → a ≤ x.length → cuts.length = cntM (x.cps.toList.drop a)
  | [], a, f, h, hn, ha => by
    have e : f = a := h
    subst e
    rw [cnt_gap (x.cps.toList.length) (x.cps.toList.drop f) fun k _ hp => ?_]
    · rw [List.drop_eq_nil_of_le (by rw [List.length_drop]; exact Nat.sub_le _ _)]; rfl
    · rw [List.drop_drop] at hp
      exact hn (f + k) (by omega) ((at_iff x (St "-") (f + k) (by decide)).mpr hp)
  | c :: r, a, f, h, hn, ha => by
    obtain ⟨h1, h2, h3, h4⟩ := h
    have ih := cnt_chain x r (c + 1) f h4 hn h2.1
    rw [List.length_cons, ih, cnt_gap (c - a) (x.cps.toList.drop a) fun k hk hp => ?_, List.drop_drop, show a + (c - a) = c by omega, cnt_hit _ ((at_iff x (St "-") c (by decide)).mp h2), List.drop_drop, Nat.add_comm]
    · rw [List.drop_drop] at hp
      exact h3 (a + k) (by omega) (by omega) ((at_iff x (St "-") (a + k) (by decide)).mpr hp)
theorem count_min (x : PySem.Str) : Txt.count x (St "-") = ((cntM x.cps.toList : Nat) : Int) := by
  obtain ⟨f, hG, hn⟩ := occ_tight x (St "-") (by decide)
  have key := cnt_chain x _ 0 f hG hn (Nat.zero_le _)
  rw [List.drop_zero] at key
  show (((occurrences x (St "-") 0 x.length (x.length + 1)).length : Nat) : Int) = _
  rw [key]
end Mine
namespace Mine
/-- a tree whose leaves may carry a minus -/
inductive MT where
  | lf (n : Bool) (c : Nat)
  | nd (l r : MT)
noncomputable def MT.text : MT → List Nat
  | .lf n c => if n = true then [45, c] else [c]
  | .nd l r => 40 :: (l.text ++ (r.text ++ [41]))
noncomputable def MT.un : MT → Tr
  | .lf _ c => .lf c
  | .nd l r => .nd l.un r.un
noncomputable def MT.neg : MT → Nat
  | .lf n _ => if n = true then 1 else 0
  | .nd l r => l.neg + r.neg
noncomputable def MT.sz : MT → Nat
  | .lf _ _ => 1
  | .nd l r => l.sz + r.sz
noncomputable def MT.ok : MT → Prop
  | .lf _ c => isL c
  | .nd l r => l.ok ∧ r.ok
noncomputable def mkM : Tr → MT
  | .lf c => .lf false c
  | .nd l r => .nd (mkM l) (mkM r)
noncomputable def MT.isF (a : Nat) : MT → Bool
  | .lf n c => !n && decide (c = a)
  | .nd _ _ => false
abbrev Pat := Nat × Nat × Bool × Nat
noncomputable def hitM (p : Pat) (l r : MT) : Bool := l.isF p.1 && r.isF p.2.1
noncomputable def repM (p : Pat) : MT → MT
  | .lf n c => .lf n c
  | .nd l r => if hitM p l r = true then .lf p.2.2.1 p.2.2.2 else .nd (repM p l) (repM p r)
theorem isF_eq {a : Nat} : ∀ {T : MT}, T.isF a = true → T = .lf false a
  | .lf true c, h => by cases h
  | .lf false c, h => by
    have e : c = a := by
      rw [MT.isF, Bool.not_false, Bool.true_and] at h
      exact of_decide_eq_true h
    rw [e]
  | .nd _ _, h => by cases h
theorem hit_eq {p : Pat} {l r : MT} (h : hitM p l r = true) : l = .lf false p.1 ∧ r = .lf false p.2.1 := by
  obtain ⟨h1, h2⟩ := Bool.and_eq_true_iff.mp h
  exact ⟨isF_eq h1, isF_eq h2⟩
theorem first_lf {a : Nat} {u v : List Nat} (h0 : a ≠ 40) (h1 : a ≠ 45) : ∀ {T : MT}, T.text ++ u = a :: v → T.isF a = true ∧ u = v
  | .lf true c, h => by
    have e : 45 :: (c :: u) = a :: v := h
    exact absurd (List.cons.inj e).1.symm h1
  | .lf false c, h => by
    have e : c :: u = a :: v := h
    obtain ⟨e1, e2⟩ := List.cons.inj e
    exact ⟨by rw [MT.isF, e1]; exact decide_eq_true rfl, e2⟩
  | .nd l r, h => by
    have e : 40 :: (l.text ++ (r.text ++ [41]) ++ u) = a :: v := h
    exact absurd (List.cons.inj e).1.symm h0
noncomputable def patP (p : Pat) : List Nat := [40, p.1, p.2.1, 41]
noncomputable def patZ (p : Pat) : List Nat := if p.2.2.1 = true then [45, p.2.2.2] else [p.2.2.2]
/-- a pattern as the vector product has it -/
noncomputable def okPat (p : Pat) : Prop := isL p.1 ∧ isL p.2.1 ∧ isL p.2.2.2 ∧ mixO (some (ixOf p.1)) (some (ixOf p.2.1)) = some (ixOf p.2.2.2) ∧ sgO (some (ixOf p.1)) (some (ixOf p.2.1)) = if p.2.2.1 = true then 1 else 0
theorem isL_ne {c : Nat} (h : isL c) : c ≠ 40 ∧ c ≠ 45 ∧ c ≠ 41 := by
  rcases h with rfl | rfl | rfl <;> decide
theorem pre40 {p : Pat} (c : Nat) {r : List Nat} (h : c ≠ 40) : ¬ (patP p).isPrefixOf (c :: r) = true := by
  rw [patP, List.isPrefixOf, Bool.and_eq_true, beq_iff_eq]
  exact fun x => h x.1.symm
theorem rep_text {p : Pat} (hp : okPat p) : ∀ (T : MT) (rest : List Nat), T.ok → replL (patP p) (patZ p) (T.text ++ rest) 0 = (repM p T).text ++ replL (patP p) (patZ p) rest 0
  | .lf n c, rest, h => by
    have hc := isL_ne (show isL c from h)
    cases n with
    | false =>
      show replL (patP p) (patZ p) (c :: rest) 0 = c :: replL (patP p) (patZ p) rest 0
      rw [replL, if_neg (pre40 _ hc.1)]
    | true =>
      show replL (patP p) (patZ p) (45 :: c :: rest) 0 = 45 :: c :: replL (patP p) (patZ p) rest 0
      rw [replL, if_neg (pre40 45 (by decide)), replL, if_neg (pre40 _ hc.1)]
  | .nd l r, rest, h => by
    have hl := rep_text hp l (r.text ++ (41 :: rest)) h.1
    have hr := rep_text hp r (41 :: rest) h.2
    have e : (MT.nd l r).text ++ rest = 40 :: (l.text ++ (r.text ++ (41 :: rest))) := by
      show 40 :: (l.text ++ (r.text ++ [41])) ++ rest = _
      rw [List.cons_append, List.append_assoc, List.append_assoc]; rfl
    cases hh : hitM p l r with
    | true =>
      obtain ⟨rfl, rfl⟩ := hit_eq hh
      rw [repM, if_pos hh, e]
      show replL (patP p) (patZ p) (40 :: p.1 :: p.2.1 :: 41 :: rest) 0 = patZ p ++ replL (patP p) (patZ p) rest 0
      exact (replL_hit (patP p) (patZ p) (List.cons_ne_nil _ _) (patP p ++ rest) (List.isPrefixOf_iff_prefix.mpr ⟨rest, rfl⟩)).trans rfl
    | false =>
      have hf : ¬ hitM p l r = true := by rw [hh]; exact Bool.false_ne_true
      rw [repM, if_neg hf, e, replL, if_neg, hl, hr, replL, if_neg (pre40 41 (by decide))]
      · show 40 :: _ = 40 :: ((repM p l).text ++ ((repM p r).text ++ [41])) ++ _
        rw [List.cons_append, List.append_assoc, List.append_assoc]; rfl
      · intro hpre
        obtain ⟨v, hv⟩ := List.isPrefixOf_iff_prefix.mp hpre
        have hv' : l.text ++ (r.text ++ 41 :: rest) = p.1 :: p.2.1 :: 41 :: v := (List.cons.inj hv).2.symm
        have ha := isL_ne hp.1
        have hb := isL_ne hp.2.1
        obtain ⟨f1, e1⟩ := first_lf ha.1 ha.2.1 hv'
        obtain ⟨f2, _⟩ := first_lf hb.1 hb.2.1 e1
        exact hf (Bool.and_eq_true_iff.mpr ⟨f1, f2⟩)
theorem rep_ok {p : Pat} (hp : okPat p) : ∀ T : MT, T.ok → (repM p T).ok
  | .lf _ _, h => h
  | .nd l r, h => by
    rw [repM]
    split
    · exact hp.2.2.1
    · exact ⟨rep_ok hp l h.1, rep_ok hp r h.2⟩
theorem rep_col {p : Pat} (hp : okPat p) : ∀ T : MT, (repM p T).un.col = T.un.col
  | .lf _ _ => rfl
  | .nd l r => by
    rw [repM]
    split
    · rename_i hh
      obtain ⟨rfl, rfl⟩ := hit_eq hh
      exact hp.2.2.2.1.symm
    · show mixO (repM p l).un.col (repM p r).un.col = mixO l.un.col r.un.col
      rw [rep_col hp l, rep_col hp r]
theorem rep_sg {p : Pat} (hp : okPat p) : ∀ T : MT, ((repM p T).neg : Int) + (repM p T).un.sg = (T.neg : Int) + T.un.sg
  | .lf _ _ => rfl
  | .nd l r => by
    rw [repM]
    split
    · rename_i hh
      obtain ⟨rfl, rfl⟩ := hit_eq hh
      show (((if p.2.2.1 = true then 1 else 0 : Nat)) : Int) + 0 = ((0 + 0 : Nat) : Int) + (0 + 0 + sgO (some (ixOf p.1)) (some (ixOf p.2.1)))
      rw [hp.2.2.2.2]
      cases p.2.2.1 <;> rfl
    · have h1 := rep_sg hp l
      have h2 := rep_sg hp r
      show (((repM p l).neg + (repM p r).neg : Nat) : Int) + ((repM p l).un.sg + (repM p r).un.sg + sgO (repM p l).un.col (repM p r).un.col) = ((l.neg + r.neg : Nat) : Int) + (l.un.sg + r.un.sg + sgO l.un.col r.un.col)
      rw [rep_col hp l, rep_col hp r]
      omega
theorem sz_pos : ∀ T : MT, 1 ≤ T.sz
  | .lf _ _ => Nat.le_refl 1
  | .nd l r => Nat.le_trans (sz_pos l) (Nat.le_add_right _ _)
theorem rep_sz {p : Pat} : ∀ T : MT, (repM p T).sz ≤ T.sz ∧ ((repM p T).sz = T.sz → repM p T = T)
  | .lf _ _ => ⟨Nat.le_refl _, fun _ => rfl⟩
  | .nd l r => by
    rw [repM]
    split
    · have h1 := sz_pos l
      have h2 := sz_pos r
      show 1 ≤ l.sz + r.sz ∧ (1 = l.sz + r.sz → _)
      exact ⟨by omega, fun e => by omega⟩
    · obtain ⟨a1, a2⟩ := rep_sz (p := p) l
      obtain ⟨b1, b2⟩ := rep_sz (p := p) r
      show (repM p l).sz + (repM p r).sz ≤ l.sz + r.sz ∧ ((repM p l).sz + (repM p r).sz = l.sz + r.sz → _)
      exact ⟨by omega, fun e => by rw [a2 (by omega), b2 (by omega)]⟩
noncomputable def repsM : List Pat → MT → MT
  | [], T => T
  | p :: r, T => repsM r (repM p T)
noncomputable def repsL : List Pat → List Nat → List Nat
  | [], l => l
  | p :: r, l => repsL r (replL (patP p) (patZ p) l 0)
theorem reps_text : ∀ (ps : List Pat) (T : MT), (∀ p ∈ ps, okPat p) → T.ok → repsL ps T.text = (repsM ps T).text
  | [], _, _, _ => rfl
  | p :: r, T, h, hT => by
    have e := rep_text (h p (.head _)) T [] hT
    rw [List.append_nil, show replL (patP p) (patZ p) [] 0 = [] from rfl, List.append_nil] at e
    rw [repsL, e]
    exact reps_text r _ (fun q hq => h q (.tail _ hq)) (rep_ok (h p (.head _)) T hT)
theorem reps_all : ∀ (ps : List Pat) (T : MT), (∀ p ∈ ps, okPat p) → T.ok → (repsM ps T).ok ∧ (repsM ps T).un.col = T.un.col ∧ ((repsM ps T).neg : Int) + (repsM ps T).un.sg = (T.neg : Int) + T.un.sg ∧ (repsM ps T).sz ≤ T.sz ∧ ((repsM ps T).sz = T.sz → ∀ p ∈ ps, repM p T = T)
  | [], T, _, hT => ⟨hT, rfl, rfl, Nat.le_refl _, fun _ p hp => nomatch hp⟩
  | p :: r, T, h, hT => by
    have hp := h p (.head _)
    obtain ⟨i1, i2, i3, i4, i5⟩ := reps_all r (repM p T) (fun q hq => h q (.tail _ hq)) (rep_ok hp T hT)
    obtain ⟨s1, s2⟩ := rep_sz (p := p) T
    refine ⟨i1, i2.trans (rep_col hp T), i3.trans (rep_sg hp T), Nat.le_trans i4 s1, fun e => ?_⟩
    have e1 : (repsM r (repM p T)).sz = T.sz := e
    have e2 : repM p T = T := s2 (by omega)
    have k := i5 (by omega)
    intro q hq
    rcases List.mem_cons.mp hq with rfl | hq
    · exact e2
    · rw [← e2]; rw [e2]; have := k q hq; rwa [e2] at this
noncomputable def pats : List Pat := [(114, 103, false, 98), (103, 98, false, 114), (98, 114, false, 103), (103, 114, true, 98), (98, 103, true, 114), (114, 98, true, 103)]
theorem pats_ok : ∀ p ∈ pats, okPat p := by
  unfold pats
  have h : ∀ p : Pat, (decide (p.1 = 114 ∨ p.1 = 103 ∨ p.1 = 98) && (decide (p.2.1 = 114 ∨ p.2.1 = 103 ∨ p.2.1 = 98) && (decide (p.2.2.2 = 114 ∨ p.2.2.2 = 103 ∨ p.2.2.2 = 98) && (decide (mixO (some (ixOf p.1)) (some (ixOf p.2.1)) = some (ixOf p.2.2.2)) && decide (sgO (some (ixOf p.1)) (some (ixOf p.2.1)) = if p.2.2.1 = true then 1 else 0))))) = true → okPat p := by
    intro p h
    simp only [Bool.and_eq_true, decide_eq_true_eq] at h
    exact h
  exact FMC.all ⟨h _ (by decide +kernel), FMC.all ⟨h _ (by decide +kernel), FMC.all ⟨h _ (by decide +kernel), FMC.all ⟨h _ (by decide +kernel), FMC.all ⟨h _ (by decide +kernel), FMC.all ⟨h _ (by decide +kernel), List.forall_mem_nil _⟩⟩⟩⟩⟩⟩
theorem six {a b : Nat} (ha : isL a) (hb : isL b) (h : a ≠ b) : ∃ p ∈ pats, hitM p (.lf false a) (.lf false b) = true := by
  rcases ha with rfl | rfl | rfl <;> rcases hb with rfl | rfl | rfl
  · exact absurd rfl h
  · exact ⟨_, .head _, rfl⟩
  · exact ⟨_, .tail _ (.tail _ (.tail _ (.tail _ (.tail _ (.head _))))), rfl⟩
  · exact ⟨_, .tail _ (.tail _ (.tail _ (.head _))), rfl⟩
  · exact absurd rfl h
  · exact ⟨_, .tail _ (.head _), rfl⟩
  · exact ⟨_, .tail _ (.tail _ (.head _)), rfl⟩
  · exact ⟨_, .tail _ (.tail _ (.tail _ (.tail _ (.head _)))), rfl⟩
  · exact absurd rfl h
theorem stuck : ∀ t : Tr, (mkM t).ok → t.col ≠ none → (∀ p ∈ pats, repM p (mkM t) = mkM t) → ∃ c, t = .lf c
  | .lf c, _, _, _ => ⟨c, rfl⟩
  | .nd l r, ho, hc, h => by
    have hcl : l.col ≠ none := fun e => hc (by show mixO l.col r.col = none; rw [e]; rfl)
    have hcr : r.col ≠ none := fun e => hc (by show mixO l.col r.col = none; rw [e]; cases l.col <;> rfl)
    have hh : ∀ p ∈ pats, ¬ hitM p (mkM l) (mkM r) = true ∧ repM p (mkM l) = mkM l ∧ repM p (mkM r) = mkM r := fun p hp => by
      have e := h p hp
      rw [mkM, repM] at e
      split at e
      · cases e
      · rename_i hn
        injection e with e1 e2
        exact ⟨hn, e1, e2⟩
    obtain ⟨a, rfl⟩ := stuck l ho.1 hcl fun p hp => (hh p hp).2.1
    obtain ⟨b, rfl⟩ := stuck r ho.2 hcr fun p hp => (hh p hp).2.2
    have hab : a ≠ b := fun e => hc (by subst e; exact if_pos rfl)
    obtain ⟨p, hp, hit⟩ := six ho.1 ho.2 hab
    exact absurd hit (hh p hp).1
theorem mk_un : ∀ t : Tr, (mkM t).un = t ∧ (mkM t).neg = 0 ∧ (mkM t).text = t.text ∧ (mkM t).sz = t.leaves.length
  | .lf _ => ⟨rfl, rfl, rfl, rfl⟩
  | .nd l r => by
    obtain ⟨a1, a2, a3, a4⟩ := mk_un l
    obtain ⟨b1, b2, b3, b4⟩ := mk_un r
    refine ⟨by rw [mkM, MT.un, a1, b1], by rw [mkM, MT.neg, a2, b2], by rw [mkM, MT.text, a3, b3]; rfl, ?_⟩
    rw [mkM, MT.sz, a4, b4]
    exact List.length_append.symm
theorem mk_ok : ∀ t : Tr, (∀ c ∈ t.leaves, isL c) → (mkM t).ok
  | .lf c, h => h c (.head _)
  | .nd l r, h => ⟨mk_ok l fun c hc => h c (List.mem_append_left _ hc), mk_ok r fun c hc => h c (List.mem_append_right _ hc)⟩
theorem un_ok : ∀ T : MT, T.ok → (mkM T.un).ok ∧ (mkM T.un).sz = T.sz
  | .lf _ _, h => ⟨h, rfl⟩
  | .nd l r, h => by
    obtain ⟨a1, a2⟩ := un_ok l h.1
    obtain ⟨b1, b2⟩ := un_ok r h.2
    exact ⟨⟨a1, b1⟩, by rw [MT.un, mkM, MT.sz, MT.sz, a2, b2]⟩
theorem un_text : ∀ (T : MT) (rest : List Nat), T.ok → replL [45] [] (T.text ++ rest) 0 = T.un.text ++ replL [45] [] rest 0 ∧ cntM (T.text ++ rest) = T.neg + cntM rest
  | .lf n c, rest, h => by
    have hc := (isL_ne (show isL c from h)).2.1
    have e : ∀ r : List Nat, replL [45] [] (c :: r) 0 = c :: replL [45] [] r 0 := fun r => by
      rw [replL, if_neg (by rw [pre1, decide_eq_true_iff]; exact hc)]
    have e2 : ∀ r : List Nat, cntM (c :: r) = cntM r := fun r => by rw [cntM, if_neg hc, Nat.zero_add]
    cases n with
    | false => exact ⟨e rest, (e2 rest).trans (Nat.zero_add _).symm⟩
    | true =>
      refine ⟨?_, ?_⟩
      · show replL [45] [] (45 :: c :: rest) 0 = c :: replL [45] [] rest 0
        rw [replL, if_pos (by rw [pre1]; rfl), ← e rest]; rfl
      · show cntM (45 :: c :: rest) = 1 + cntM rest
        rw [cntM, if_pos rfl, e2]
  | .nd l r, rest, h => by
    obtain ⟨l1, l2⟩ := un_text l (r.text ++ (41 :: rest)) h.1
    obtain ⟨r1, r2⟩ := un_text r (41 :: rest) h.2
    have e : (MT.nd l r).text ++ rest = 40 :: (l.text ++ (r.text ++ (41 :: rest))) := by
      show 40 :: (l.text ++ (r.text ++ [41])) ++ rest = _
      rw [List.cons_append, List.append_assoc, List.append_assoc]; rfl
    rw [e]
    refine ⟨?_, ?_⟩
    · rw [replL, if_neg (by rw [pre1]; decide), l1, r1, replL, if_neg (by rw [pre1]; decide)]
      show _ = 40 :: (l.un.text ++ (r.un.text ++ [41])) ++ _
      rw [List.cons_append, List.append_assoc, List.append_assoc]; rfl
    · rw [cntM, if_neg (by decide), l2, r2, cntM, if_neg (by decide)]
      show _ = (l.neg + r.neg) + _
      omega
end Mine
namespace Mine
theorem rep6_pats (l : List Nat) : rep6 l = repsL pats l := by
  have e1 : (St "(rg)").cps.toList = [40, 114, 103, 41] := by decide +kernel
  have e2 : (St "(gb)").cps.toList = [40, 103, 98, 41] := by decide +kernel
  have e3 : (St "(br)").cps.toList = [40, 98, 114, 41] := by decide +kernel
  have e4 : (St "(gr)").cps.toList = [40, 103, 114, 41] := by decide +kernel
  have e5 : (St "(bg)").cps.toList = [40, 98, 103, 41] := by decide +kernel
  have e6 : (St "(rb)").cps.toList = [40, 114, 98, 41] := by decide +kernel
  have z1 : (St "b").cps.toList = [98] := by decide +kernel
  have z2 : (St "r").cps.toList = [114] := by decide +kernel
  have z3 : (St "g").cps.toList = [103] := by decide +kernel
  have z4 : (St "-b").cps.toList = [45, 98] := by decide +kernel
  have z5 : (St "-r").cps.toList = [45, 114] := by decide +kernel
  have z6 : (St "-g").cps.toList = [45, 103] := by decide +kernel
  show replL (St "(rb)").cps.toList (St "-g").cps.toList (replL (St "(bg)").cps.toList (St "-r").cps.toList (replL (St "(gr)").cps.toList (St "-b").cps.toList (replL (St "(br)").cps.toList (St "g").cps.toList (replL (St "(gb)").cps.toList (St "r").cps.toList (replL (St "(rg)").cps.toList (St "b").cps.toList l 0) 0) 0) 0) 0) 0 = _
  rw [e1, e2, e3, e4, e5, e6, z1, z2, z3, z4, z5, z6]
  rfl
/-- one turn -/
theorem byT_turn {k : Nat} {t : Tr} {n : Int} (h : (mkM t).ok) : byT (k + 1) (textS t) n = byT k (textS (repsM pats (mkM t)).un) (n + ((repsM pats (mkM t)).neg : Int)) := by
  have ho := (reps_all pats (mkM t) pats_ok h).1
  have ht := reps_text pats (mkM t) pats_ok h
  rw [(mk_un t).2.2.1] at ht
  obtain ⟨u1, u2⟩ := un_text (repsM pats (mkM t)) [] ho
  rw [List.append_nil] at u1 u2
  have e6 : (rep6S (textS t)).cps.toList = (repsM pats (mkM t)).text := by
    show rep6 t.text = _
    rw [rep6_pats, ht]
  have em : (St "-").cps.toList = [45] := by decide +kernel
  have ee : (St "").cps.toList = [] := by decide +kernel
  have ec : Txt.count (rep6S (textS t)) (St "-") = ((repsM pats (mkM t)).neg : Int) := by
    rw [count_min, e6, u2]; rfl
  have en : noMin (rep6S (textS t)) = textS (repsM pats (mkM t)).un := by
    refine cps_eq ?_
    show replL (St "-").cps.toList (St "").cps.toList (rep6S (textS t)).cps.toList 0 = _
    rw [em, ee, e6, u1]
    exact List.append_nil _
  rw [byT, ec, en]
theorem byT_go : ∀ (k : Nat) (t : Tr) (n : Int), (mkM t).ok → ∃ (u : Tr) (m : Int), byT k (textS t) n = (textS u, m) ∧ (mkM u).ok ∧ u.col = t.col ∧ m + u.sg = n + t.sg ∧ (t.col ≠ none → (mkM t).sz ≤ k + 1 → ∃ c, u = .lf c)
  | 0, t, n, h => ⟨t, n, rfl, h, rfl, rfl, fun _ hs => by
    cases t with
    | lf c => exact ⟨c, rfl⟩
    | nd l r =>
      have h1 := sz_pos (mkM l)
      have h2 := sz_pos (mkM r)
      have h3 : (mkM l).sz + (mkM r).sz ≤ 0 + 1 := hs
      omega⟩
  | k + 1, t, n, h => by
    obtain ⟨a1, a2, a3, a4, a5⟩ := reps_all pats (mkM t) pats_ok h
    obtain ⟨b1, b2⟩ := un_ok _ a1
    obtain ⟨m1, m2, m3, m4⟩ := mk_un t
    obtain ⟨u, m, e1, e2, e3, e4, e5⟩ := byT_go k (repsM pats (mkM t)).un (n + ((repsM pats (mkM t)).neg : Int)) b1
    refine ⟨u, m, (byT_turn h).trans e1, e2, e3.trans (a2.trans (by rw [m1])), ?_, fun hc hs => ?_⟩
    · rw [m1, m2] at a3
      rw [e4, Int.add_assoc, a3]
      exact congrArg (n + ·) (Int.zero_add _)
    · by_cases hz : (repsM pats (mkM t)).sz = (mkM t).sz
      · obtain ⟨c, hl⟩ := stuck t h hc (a5 hz)
        refine e5 (by rw [a2, m1]; exact hc) ?_
        rw [b2, hz, m4, hl]
        exact Nat.succ_pos _
      · exact e5 (by rw [a2, m1]; exact hc) (by rw [b2]; omega)
theorem lf_len {t : Tr} (h : t.text.length = 1) : ∃ c, t = .lf c := by
  cases t with
  | lf c => exact ⟨c, rfl⟩
  | nd l r =>
    have e : (40 :: (l.text ++ (r.text ++ [41]))).length = 1 := h
    simp only [List.length_cons, List.length_append, List.length_nil] at e
    omega
theorem let_ix {c : Nat} (h : isL c) : one1 c = one1 (letN (ixOf c)) := by
  rcases h with rfl | rfl | rfl <;> rfl
/-- what the text's rounds leave is what the colours make -/
theorem byT_tree {t : Tr} (h : ∀ c ∈ t.leaves, isL c) (h5 : t.leaves.length = 5) : byTF (textS t) = letO t.col ∧ (t.col ≠ none → (byT 4 (textS t) 0).2 = t.sg) := by
  obtain ⟨u, m, e1, e2, e3, e4, e5⟩ := byT_go 4 t 0 (mk_ok t h)
  have e5 := fun hc => e5 hc (by rw [(mk_un t).2.2.2, h5]; decide)
  rw [byTF, e1]
  show (if (textS u).length = 1 then textS u else PySem.Str.ofString "") = _ ∧ (_ → m = _)
  refine ⟨?_, fun hc => ?_⟩
  · cases hc : t.col with
    | none =>
      rw [if_neg]
      · rfl
      · intro hl
        obtain ⟨c, rfl⟩ := lf_len (t := u) hl
        rw [hc] at e3
        cases e3
    | some k =>
      obtain ⟨c, rfl⟩ := e5 (by rw [hc]; exact fun x => nomatch x)
      rw [hc] at e3
      rw [if_pos (show (textS (Tr.lf c)).length = 1 from rfl), ← Option.some.inj e3]
      exact let_ix e2
  · obtain ⟨c, rfl⟩ := e5 hc
    have e6 : m + 0 = 0 + t.sg := e4
    omega
end Mine
end
section
open PySem PySem.W PyProof.Rows PySem.Calls PySem.Spec
namespace Mine
/-- may the corner at the row's end be painted so -/
noncomputable def okPt (cs : List (Nat × Nat)) (row : List Nat) (paint : Nat) : Bool := cs.all fun p => !(p.2 == row.length) || !(row.getD p.1 0 == paint)
noncomputable def paintOf (figs row : List Nat) (t : Nat) : Nat := row.getD (row.length - 1) 0 ^^^ ((figs.getD (row.length - 1) 0 + t) % 3 + 1)
noncomputable def kid (figs : List Nat) (cs : List (Nat × Nat)) (row : List Nat) (t : Nat) (st : List (List Nat)) : List (List Nat) :=
  if okPt cs row (paintOf figs row t) = true then (row ++ [paintOf figs row t]) :: st else st
noncomputable def dfs (figs : List Nat) (cs : List (Nat × Nat)) : Nat → List (List Nat) → Option (List Nat)
  | 0, _ => none
  | _ + 1, [] => none
  | n + 1, row :: st => if row.length < 6 then dfs figs cs n (kid figs cs row 0 (kid figs cs row 1 (kid figs cs row 2 st))) else some row
/-- a row that is painted well so far -/
noncomputable def goodR (cs : List (Nat × Nat)) (row : List Nat) : Prop :=
  1 ≤ row.length ∧ row.length ≤ 6 ∧ row.getD 0 0 = 0 ∧ (∀ x ∈ row, x < 4) ∧ (∀ i, i + 1 < row.length → row.getD i 0 ≠ row.getD (i + 1) 0) ∧ ∀ p ∈ cs, p.2 < row.length → row.getD p.1 0 ≠ row.getD p.2 0
noncomputable def wt : Nat → Nat
  | 0 => 1
  | k + 1 => 1 + 3 * wt k
noncomputable def wts : List (List Nat) → Nat
  | [] => 0
  | r :: st => wt (6 - r.length) + wts st
theorem getD_app1 {r : List Nat} {x i : Nat} (h : i < r.length) : (r ++ [x]).getD i 0 = r.getD i 0 := by
  rw [List.getD_eq_getElem?_getD, List.getD_eq_getElem?_getD, List.getElem?_append_left h]
theorem getD_app2 {r : List Nat} {x : Nat} : (r ++ [x]).getD r.length 0 = x := by
  rw [List.getD_eq_getElem?_getD, List.getElem?_append_right (Nat.le_refl _), Nat.sub_self]; rfl
theorem xor_pt : ∀ a, a < 4 → ∀ f, f < 3 → ∀ t, t < 3 → a ^^^ ((f + t) % 3 + 1) < 4 ∧ a ≠ a ^^^ ((f + t) % 3 + 1) := by decide +kernel
theorem xor_hit : ∀ a, a < 4 → ∀ b, b < 4 → a ≠ b → ∀ f, f < 3 → ∃ t, t < 3 ∧ a ^^^ ((f + t) % 3 + 1) = b := by decide +kernel
theorem figs_lt {figs : List Nat} (h : ∀ x ∈ figs, x < 3) (i : Nat) : figs.getD i 0 < 3 := by
  rw [List.getD_eq_getElem?_getD]
  cases e : figs[i]? with
  | none => decide
  | some x => exact h x (List.mem_of_getElem? e)
theorem kid_good {figs : List Nat} {cs : List (Nat × Nat)} {row : List Nat} {t : Nat} (hf : ∀ x ∈ figs, x < 3) (hc : ∀ p ∈ cs, p.1 < p.2) (ht : t < 3) (g : goodR cs row) (hl : row.length < 6) (ok : okPt cs row (paintOf figs row t) = true) : goodR cs (row ++ [paintOf figs row t]) := by
  obtain ⟨g1, g2, g3, g4, g5, g6⟩ := g
  obtain ⟨x1, x2⟩ := xor_pt _ (getD_lt (i := row.length - 1) g4) _ (figs_lt hf (row.length - 1)) t ht
  have el : (row ++ [paintOf figs row t]).length = row.length + 1 := by rw [List.length_append]; rfl
  refine ⟨by rw [el]; omega, by rw [el]; omega, by rw [getD_app1 g1]; exact g3, fun x hx => ?_, fun i hi => ?_, fun p hp h => ?_⟩
  · rcases List.mem_append.mp hx with hx | hx
    · exact g4 x hx
    · rw [List.mem_singleton.mp hx]; exact x1
  · rw [el] at hi
    by_cases e : i + 1 = row.length
    · rw [getD_app1 (by omega), e, getD_app2]
      intro e'
      have e2 : i = row.length - 1 := by omega
      rw [e2] at e'
      exact x2 e'
    · rw [getD_app1 (by omega), getD_app1 (by omega)]
      exact g5 i (by omega)
  · rw [el] at h
    have h1 := hc p hp
    by_cases e : p.2 = row.length
    · rw [getD_app1 (by omega), e, getD_app2]
      have z := List.all_eq_true.mp ok p hp
      rw [e, beq_self_eq_true, Bool.not_true, Bool.false_or, Bool.not_eq_true'] at z
      exact beq_eq_false_iff_ne.mp z
    · rw [getD_app1 (by omega), getD_app1 (by omega)]
      exact g6 p hp (by omega)
/-- the row of a whole painting, so far -/
noncomputable def upto (S row : List Nat) : Prop := ∀ i, i < row.length → row.getD i 0 = S.getD i 0
theorem kid_ext {figs : List Nat} {cs : List (Nat × Nat)} {row S : List Nat} (hf : ∀ x ∈ figs, x < 3) (hc : ∀ p ∈ cs, p.1 < p.2) (gS : goodR cs S) (hS : S.length = 6) (g : goodR cs row) (hl : row.length < 6) (u : upto S row) : ∃ t, t < 3 ∧ okPt cs row (paintOf figs row t) = true ∧ upto S (row ++ [paintOf figs row t]) := by
  obtain ⟨g1, g2, g3, g4, g5, g6⟩ := gS
  have h1 := g.1
  have hn := g5 (row.length - 1) (by omega)
  rw [show row.length - 1 + 1 = row.length by omega] at hn
  obtain ⟨t, ht, e⟩ := xor_hit _ (getD_lt (i := row.length - 1) g4) _ (getD_lt (i := row.length) g4) hn _ (figs_lt hf (row.length - 1))
  have ep : paintOf figs row t = S.getD row.length 0 := by rw [paintOf, u (row.length - 1) (by omega)]; exact e
  refine ⟨t, ht, ?_, fun i hi => ?_⟩
  · rw [ep]
    refine List.all_eq_true.mpr fun p hp => ?_
    by_cases e2 : p.2 = row.length
    · have h3 := hc p hp
      have z := g6 p hp (by omega)
      rw [e2] at z
      rw [u p.1 (by omega), beq_eq_false_iff_ne.mpr z, Bool.not_false, Bool.or_true]
    · rw [beq_eq_false_iff_ne.mpr e2, Bool.not_false, Bool.true_or]
  · rw [List.length_append] at hi
    have hi : i < row.length + 1 := hi
    by_cases e2 : i = row.length
    · rw [e2, getD_app2, ep]
    · rw [getD_app1 (by omega)]
      exact u i (by omega)
theorem kid_all {figs : List Nat} {cs : List (Nat × Nat)} {row : List Nat} {t : Nat} {st : List (List Nat)} (hf : ∀ x ∈ figs, x < 3) (hc : ∀ p ∈ cs, p.1 < p.2) (ht : t < 3) (g : goodR cs row) (hl : row.length < 6) (gs : ∀ r ∈ st, goodR cs r) : (∀ r ∈ kid figs cs row t st, goodR cs r) ∧ wts (kid figs cs row t st) ≤ wt (5 - row.length) + wts st ∧ ∀ r ∈ st, r ∈ kid figs cs row t st := by
  rw [kid]
  split
  · rename_i ok
    refine ⟨fun r hr => ?_, ?_, fun r hr => .tail _ hr⟩
    · rcases List.mem_cons.mp hr with rfl | hr
      · exact kid_good hf hc ht g hl ok
      · exact gs r hr
    · rw [wts, List.length_append, show 6 - (row.length + [paintOf figs row t].length) = 5 - row.length by rw [List.length_singleton]; omega]
      exact Nat.le_refl _
  · exact ⟨gs, Nat.le_add_left _ _, fun r hr => hr⟩
/-- the search ends with a painting -/
theorem dfs_ok {figs : List Nat} {cs : List (Nat × Nat)} {S : List Nat} (hf : ∀ x ∈ figs, x < 3) (hc : ∀ p ∈ cs, p.1 < p.2) (gS : goodR cs S) (hS : S.length = 6) : ∀ (n : Nat) (st : List (List Nat)), (∀ r ∈ st, goodR cs r) → wts st ≤ n → (∃ r ∈ st, upto S r) → ∃ R, dfs figs cs n st = some R ∧ goodR cs R ∧ R.length = 6
  | n, [], _, _, ⟨_, h, _⟩ => nomatch h
  | 0, r :: st, _, hw, _ => by
    have h1 : ∀ k, 1 ≤ wt k := fun k => by cases k <;> rw [wt] <;> omega
    have h2 := h1 (6 - r.length)
    rw [wts] at hw
    omega
  | n + 1, row :: st, gs, hw, ⟨r, hr, hu⟩ => by
    have g := gs row (.head _)
    rw [dfs]
    by_cases hl : row.length < 6
    · rw [if_pos hl]
      obtain ⟨a1, a2, a3⟩ := kid_all (t := 2) hf hc (by decide) g hl (fun r hr => gs r (.tail _ hr))
      obtain ⟨b1, b2, b3⟩ := kid_all (t := 1) hf hc (by decide) g hl a1
      obtain ⟨c1, c2, c3⟩ := kid_all (t := 0) hf hc (by decide) g hl b1
      refine dfs_ok hf hc gS hS n _ c1 ?_ ?_
      · rw [wts, show 6 - row.length = 5 - row.length + 1 by omega, wt] at hw
        omega
      · rcases List.mem_cons.mp hr with rfl | hr
        · obtain ⟨t, ht, ok, u⟩ := kid_ext hf hc gS hS g hl hu
          refine ⟨_, ?_, u⟩
          have self : ∀ st, (r ++ [paintOf figs r t]) ∈ kid figs cs r t st := fun st => by
            rw [kid, if_pos ok]; exact .head _
          match t, ht, self with
          | 0, _, self => exact self _
          | 1, _, self => exact c3 _ (self _)
          | 2, _, self => exact c3 _ (b3 _ (self _))
        · exact ⟨r, c3 _ (b3 _ (a3 _ hr)), hu⟩
    · rw [if_neg hl]
      exact ⟨row, rfl, g, Nat.le_antisymm g.2.1 (Nat.le_of_not_lt hl)⟩
theorem dfs_start {figs : List Nat} {cs : List (Nat × Nat)} {S : List Nat} (hf : ∀ x ∈ figs, x < 3) (hc : ∀ p ∈ cs, p.1 < p.2) (gS : goodR cs S) (hS : S.length = 6) : ∃ R, dfs figs cs 364 [[0]] = some R ∧ goodR cs R ∧ R.length = 6 := by
  refine dfs_ok hf hc gS hS 364 [[0]] ?_ (by decide +kernel) ⟨[0], .head _, fun i hi => ?_⟩
  · intro r hr
    rw [List.mem_singleton.mp hr]
    refine ⟨Nat.le_refl 1, by decide, rfl, fun x hx => by rw [List.mem_singleton.mp hx]; decide, fun i hi => absurd hi (by show ¬ i + 1 < 1; omega), fun p hp h => ?_⟩
    have := hc p hp
    have h : p.2 < 1 := h
    omega
  · have h0 : i = 0 := by
      have hi : i < 1 := hi
      omega
    rw [h0, gS.2.2.1]; rfl
end Mine
end
section
open PySem PySem.W PyProof.Rows PySem.Calls PySem.Spec
namespace Mine
noncomputable def Tr.mp (f : Nat → Nat) : Tr → Tr
  | .lf c => .lf (f c)
  | .nd l r => .nd (l.mp f) (r.mp f)
theorem mp_leaves (f : Nat → Nat) : ∀ T : Tr, (T.mp f).leaves = T.leaves.map f
  | .lf _ => rfl
  | .nd l r => by rw [Tr.mp, Tr.leaves, Tr.leaves, mp_leaves f l, mp_leaves f r, List.map_append]
theorem mp_chords (f : Nat → Nat) : ∀ (T : Tr) (p : Nat), (T.mp f).chords p = T.chords p
  | .lf _, _ => rfl
  | .nd l r, p => by rw [Tr.mp, Tr.chords, Tr.chords, mp_chords f l, mp_chords f r, mp_leaves, mp_leaves, List.length_map, List.length_map]
theorem getD_mp (f : Nat → Nat) {ts : List Tr} {j : Nat} (h : j < ts.length) : (ts.map (Tr.mp f)).getD j (.lf 0) = (ts.getD j (.lf 0)).mp f := by
  rw [List.getD_eq_getElem?_getD, List.getD_eq_getElem?_getD, List.getElem?_map, List.getElem?_eq_getElem h]; rfl
theorem nestT_mp (f : Nat → Nat) : ∀ (k : Nat) (x : Int) (ts : List Tr), ts.length = k + 1 → nestT k x (ts.map (Tr.mp f)) = (nestT k x ts).map (Tr.mp f)
  | 0, _, _, _ => rfl
  | k + 1, x, ts, h => by
    obtain ⟨f0, f1⟩ := fmod_ok x k
    rw [nestT, nestT, getD_mp f (by omega), getD_mp f (by omega)]
    rw [← nestT_mp f k _ _ (by simp only [List.length_append, List.length_take, List.length_drop, List.length_singleton, h]; omega)]
    simp only [List.map_append, List.map_take, List.map_drop, List.map_cons, List.map_nil]
    rfl
/-- the chords that a number picks -/
noncomputable def shp (x : Int) : List (Nat × Nat) := (treeOf 0 1 2 3 4 x).chords 0
theorem treeOf_mp (f : Nat → Nat) (x : Int) : treeOf (f 0) (f 1) (f 2) (f 3) (f 4) x = (treeOf 0 1 2 3 4 x).mp f := by
  have h := nestT_mp f 4 x [.lf 0, .lf 1, .lf 2, .lf 3, .lf 4] rfl
  have hl := (nestT_leaves 4 x [.lf 0, .lf 1, .lf 2, .lf 3, .lf 4] rfl).2
  unfold treeOf
  rw [← getD_mp f (by rw [hl]; decide), ← h]; rfl
theorem treeOf_shp (a b c d e : Nat) (x : Int) : (treeOf a b c d e x).chords 0 = shp x := by
  have h := treeOf_mp (fun i => [a, b, c, d, e].getD i 0) x
  have e1 : treeOf a b c d e x = (treeOf 0 1 2 3 4 x).mp (fun i => [a, b, c, d, e].getD i 0) := h
  rw [e1, mp_chords]; rfl
noncomputable def per : Nat → Int
  | 0 => 1
  | k + 1 => ((k + 1 : Nat) : Int) * per k
theorem nestT_per : ∀ (k : Nat) (y q : Int) (ts : List Tr), nestT k (y + per k * q) ts = nestT k y ts
  | 0, _, _, _ => rfl
  | k + 1, y, q, ts => by
    have hk : ((k + 1 : Nat) : Int) ≠ 0 := by omega
    have e1 : (y + per (k + 1) * q).fmod ((k + 1 : Nat) : Int) = y.fmod ((k + 1 : Nat) : Int) := by
      rw [per, Int.mul_assoc, Int.add_mul_fmod_self_left]
    have e2 : (y + per (k + 1) * q).fdiv ((k + 1 : Nat) : Int) = y.fdiv ((k + 1 : Nat) : Int) + per k * q := by
      rw [per, Int.mul_assoc, Int.add_mul_fdiv_left _ _ hk]
    rw [nestT, nestT, e1, e2, nestT_per k]
theorem shp_per (x : Int) : ∃ i, i < 24 ∧ shp x = shp ((i : Nat) : Int) := by
  obtain ⟨f0, f1⟩ := fmod_ok x 23
  obtain ⟨j, hj⟩ := Int.eq_ofNat_of_zero_le f0
  refine ⟨j, by omega, ?_⟩
  have e : x = ((j : Nat) : Int) + per 4 * x.fdiv 24 := by
    have h := Int.fmod_add_mul_fdiv x 24
    have hp : per 4 = 24 := by decide +kernel
    have hj' : x.fmod 24 = ((j : Nat) : Int) := hj
    rw [hp, ← hj', h]
  have h2 := nestT_per 4 ((j : Nat) : Int) (x.fdiv 24) [.lf 0, .lf 1, .lf 2, .lf 3, .lf 4]
  rw [← e] at h2
  unfold shp treeOf
  rw [h2]
noncomputable def tabC : List (List (Nat × Nat)) := [[(0, 2), (0, 3), (0, 4), (0, 5)], [(1, 3), (0, 3), (0, 4), (0, 5)], [(0, 2), (2, 4), (0, 4), (0, 5)], [(0, 2), (0, 3), (3, 5), (0, 5)], [(0, 2), (2, 4), (0, 4), (0, 5)], [(1, 3), (1, 4), (0, 4), (0, 5)], [(2, 4), (1, 4), (0, 4), (0, 5)], [(1, 3), (0, 3), (3, 5), (0, 5)], [(0, 2), (0, 3), (3, 5), (0, 5)], [(1, 3), (0, 3), (3, 5), (0, 5)], [(0, 2), (2, 4), (2, 5), (0, 5)], [(0, 2), (3, 5), (2, 5), (0, 5)], [(0, 2), (0, 3), (3, 5), (0, 5)], [(1, 3), (0, 3), (3, 5), (0, 5)], [(0, 2), (2, 4), (2, 5), (0, 5)], [(0, 2), (3, 5), (2, 5), (0, 5)], [(0, 2), (2, 4), (2, 5), (0, 5)], [(1, 3), (1, 4), (1, 5), (0, 5)], [(2, 4), (1, 4), (1, 5), (0, 5)], [(1, 3), (3, 5), (1, 5), (0, 5)], [(0, 2), (3, 5), (2, 5), (0, 5)], [(1, 3), (3, 5), (1, 5), (0, 5)], [(2, 4), (2, 5), (1, 5), (0, 5)], [(3, 5), (2, 5), (1, 5), (0, 5)]]
noncomputable def rowsS : List (List Nat) := [[0, 1, 3, 2, 3, 1], [0, 1, 3, 0, 1, 2], [0, 1, 3, 2, 1, 3], [0, 1, 3, 1, 0, 2], [0, 1, 3, 0, 2, 3], [0, 1, 3, 2, 0, 1], [0, 1, 3, 2, 0, 3], [0, 1, 3, 0, 2, 1], [0, 1, 0, 2, 1, 3], [0, 1, 3, 2, 1, 2], [0, 1, 0, 2, 3, 2], [0, 1, 3, 1, 2, 3], [0, 1, 3, 0, 3, 2], [0, 1, 0, 2, 3, 1], [0, 1, 3, 2, 0, 2], [0, 1, 0, 1, 3, 2], [0, 1, 3, 2, 3, 2], [0, 1, 3, 1, 3, 2]]
noncomputable def maskT : List Nat := [199173, 75525, 2710, 133229, 2710, 78993, 44176, 8549, 133229, 8549, 17066, 135339, 133229, 8549, 17066, 135339, 17066, 87120, 52312, 4438, 135339, 4438, 50954, 168202]
theorem shp_tab : ∀ i, i < 24 → shp ((i : Nat) : Int) = tabC.getD i [] := by decide +kernel
noncomputable def okI (i b : Nat) : Bool := (tabC.getD i []).all fun p => !((rowsS.getD b []).getD p.1 0 == (rowsS.getD b []).getD p.2 0)
theorem mask_ok : ∀ i, i < 24 → ∀ b, b < 18 → ((maskT.getD i 0).testBit b = true) → okI i b = true := by decide +kernel
theorem mask_pair : ∀ i, i < 24 → ∀ j, j < 24 → ∃ b, b < 18 ∧ ((maskT.getD i 0).testBit b = true ∧ (maskT.getD j 0).testBit b = true) := by decide +kernel
noncomputable def rowOk (r : List Nat) : Bool := r.length == 6 && (r.getD 0 0 == 0 && (r.all (fun x => decide (x < 4)) && (List.range 5).all fun i => !(r.getD i 0 == r.getD (i + 1) 0)))
theorem rows_ok : ∀ b, b < 18 → rowOk (rowsS.getD b []) = true := by decide +kernel
/-- four colours are enough for two trees -/
theorem four (x y : Int) : ∃ S, goodR (shp x ++ shp y) S ∧ S.length = 6 := by
  obtain ⟨i, hi, ei⟩ := shp_per x
  obtain ⟨j, hj, ej⟩ := shp_per y
  obtain ⟨b, hb, m1, m2⟩ := mask_pair i hi j hj
  have k1 := List.all_eq_true.mp (mask_ok i hi b hb m1)
  have k2 := List.all_eq_true.mp (mask_ok j hj b hb m2)
  have r := rows_ok b hb
  rw [rowOk, Bool.and_eq_true, Bool.and_eq_true, Bool.and_eq_true, beq_iff_eq, beq_iff_eq, List.all_eq_true, List.all_eq_true] at r
  obtain ⟨r1, r2, r3, r4⟩ := r
  have ne : ∀ {a c : Nat}, (!(a == c)) = true → a ≠ c := fun h => beq_eq_false_iff_ne.mp (by rwa [Bool.not_eq_true'] at h)
  refine ⟨rowsS.getD b [], ⟨by omega, by omega, r2, fun x hx => of_decide_eq_true (r3 x hx), fun i hi => ne (r4 i (List.mem_range.mpr (by omega))), fun p hp _ => ?_⟩, r1⟩
  rcases List.mem_append.mp hp with hp | hp
  · rw [ei, shp_tab i hi] at hp
    exact ne (k1 p hp)
  · rw [ej, shp_tab j hj] at hp
    exact ne (k2 p hp)
theorem shp_lt {x : Int} : ∀ p ∈ shp x, p.1 < p.2 ∧ p.2 ≤ 5 := fun p hp => by
  have h := chords_lt _ _ _ hp
  rw [treeOf_leaves] at h
  have h5 : p.2 ≤ 0 + 5 := h.2.2
  exact ⟨h.2.1, by omega⟩
theorem shp_root {x : Int} : (0, 5) ∈ shp x := by
  have h := root_chord (treeOf 0 1 2 3 4 x) (by rw [treeOf_leaves]; decide)
  rw [treeOf_leaves] at h
  exact h
end Mine
end
section
open PySem PySem.W PyProof.Rows PySem.Calls PySem.Spec
namespace Mine
noncomputable def goodC (cor : List Nat) : Prop := cor.length = 6 ∧ (∀ x ∈ cor, x < 4) ∧ ∀ i, i + 1 < 6 → cor.getD i 0 ≠ cor.getD (i + 1) 0
noncomputable def edg (cor : List Nat) (i : Nat) : Nat := (cor.getD i 0 ^^^ cor.getD (i + 1) 0) - 1
noncomputable def wordC (cor : List Nat) : PySem.Str := ⟨#[letN (edg cor 0), letN (edg cor 1), letN (edg cor 2), letN (edg cor 3), letN (edg cor 4)]⟩
noncomputable def treC (cor : List Nat) (x : Int) : Tr := treeOf (letN (edg cor 0)) (letN (edg cor 1)) (letN (edg cor 2)) (letN (edg cor 3)) (letN (edg cor 4)) x
theorem xor_lt : ∀ a, a < 4 → ∀ b, b < 4 → a ≠ b → (a ^^^ b) - 1 < 3 := by decide +kernel
theorem edg_lt {cor : List Nat} (h : goodC cor) {i : Nat} (hi : i + 1 < 6) : edg cor i < 3 := xor_lt _ (getD_lt h.2.1) _ (getD_lt h.2.1) (h.2.2 i hi)
theorem letN_isL {k : Nat} (h : k < 3) : isL (letN k) ∧ ixOf (letN k) = k := by
  rcases lt3 h with rfl | rfl | rfl
  · exact ⟨.inl rfl, rfl⟩
  · exact ⟨.inr (.inl rfl), rfl⟩
  · exact ⟨.inr (.inr rfl), rfl⟩
theorem treC_isL {cor : List Nat} (h : goodC cor) {x : Int} : ∀ c ∈ (treC cor x).leaves, isL c := by
  rw [treC, treeOf_leaves]
  exact FMC.all ⟨(letN_isL (edg_lt h (by decide))).1, FMC.all ⟨(letN_isL (edg_lt h (by decide))).1, FMC.all ⟨(letN_isL (edg_lt h (by decide))).1, FMC.all ⟨(letN_isL (edg_lt h (by decide))).1, FMC.all ⟨(letN_isL (edg_lt h (by decide))).1, List.forall_mem_nil _⟩⟩⟩⟩⟩
theorem treC_ok {cor : List Nat} (h : goodC cor) {x : Int} : LvOk (fun i => cor.getD i 0) 0 (treC cor x).leaves := by
  rw [treC, treeOf_leaves]
  have k : ∀ i, i + 1 < 6 → cor.getD i 0 ≠ cor.getD (i + 1) 0 ∧ ixOf (letN (edg cor i)) = (cor.getD i 0 ^^^ cor.getD (i + 1) 0) - 1 := fun i hi => ⟨h.2.2 i hi, (letN_isL (edg_lt h hi)).2⟩
  exact ⟨k 0 (by decide), k 1 (by decide), k 2 (by decide), k 3 (by decide), k 4 (by decide), True.intro⟩
theorem nest_treC {cor : List Nat} {x : Int} : nestF (wordC cor) x = textS (treC cor x) := nestF_tree _ _ _ _ _ x
theorem treC_told {cor : List Nat} (h : goodC cor) (x : Int) : letO (treC cor x).col = toldC cor (shp x) ∧ ((∀ p ∈ shp x, cor.getD p.1 0 ≠ cor.getD p.2 0) → (treC cor x).col ≠ none ∧ ((treC cor x).sg - (potL (fun i => cor.getD i 0) 0 (treC cor 0).leaves + aP (cor.getD 0 0) (cor.getD 5 0))) % 2 = 0) := by
  have t := tree_told (co := fun i => cor.getD i 0) (fun i => getD_lt h.2.1) (treC cor x) 0 (treC_ok h)
  have e5 : (treC cor x).leaves.length = 5 := by rw [treC, treeOf_leaves]; rfl
  have el : (treC cor x).leaves = (treC cor 0).leaves := by rw [treC, treC, treeOf_leaves, treeOf_leaves]
  have ec : (treC cor x).chords 0 = shp x := treeOf_shp _ _ _ _ _ x
  rw [e5, ec] at t
  rcases t with ⟨t, q, hq, eq⟩ | ⟨t1, t2, t3, t4⟩
  · refine ⟨?_, fun k => absurd eq (k q hq)⟩
    rw [t, toldC, if_pos (List.any_eq_true.mpr ⟨q, hq, (beq_iff_eq.mpr eq : alike cor q = true)⟩)]; rfl
  · refine ⟨?_, fun _ => ⟨by rw [t1]; exact Option.some_ne_none _, ?_⟩⟩
    · rw [t1, toldC, if_neg]
      · rfl
      · intro ha
        obtain ⟨q, hq, eq⟩ := List.any_eq_true.mp ha
        exact t3 q hq (beq_iff_eq.mp eq)
    · rw [← el, ← Int.sub_sub]; exact t4
theorem by_text {cor : List Nat} (h : goodC cor) (x : Int) : byTF (nestF (wordC cor) x) = toldC cor (shp x) := by
  rw [nest_treC, (byT_tree (treC_isL h) (by rw [treC, treeOf_leaves]; rfl)).1]
  exact (treC_told h x).1
theorem by_col {cor : List Nat} (h : goodC cor) (x : Int) : colGo (nestF (wordC cor) x).cps.toList [] 0 = some ([(treC cor x).col], (treC cor x).sg) := by
  rw [nest_treC]
  have e := colGo_text (treC cor x) [] [] 0 (treC_isL h)
  rw [List.append_nil, Int.zero_add] at e
  exact e
theorem sg_bnd : ∀ T : Tr, 0 ≤ T.sg ∧ T.sg + 1 ≤ (T.leaves.length : Int)
  | .lf _ => ⟨Int.le_refl 0, Int.le_refl 1⟩
  | .nd l r => by
    obtain ⟨a1, a2⟩ := sg_bnd l
    obtain ⟨b1, b2⟩ := sg_bnd r
    have s : ∀ a b : Option Nat, 0 ≤ sgO a b ∧ sgO a b ≤ 1 := fun a b => by
      cases a with
      | none => exact ⟨Int.le_refl 0, (by decide : (0 : Int) ≤ 1)⟩
      | some i =>
        cases b with
        | none => exact ⟨Int.le_refl 0, (by decide : (0 : Int) ≤ 1)⟩
        | some j =>
          show 0 ≤ (if i = j then (0 : Int) else if (i + 1) % 3 = j then 0 else 1) ∧ (if i = j then (0 : Int) else if (i + 1) % 3 = j then 0 else 1) ≤ 1
          (repeat' split) <;> decide
    obtain ⟨s1, s2⟩ := s l.col r.col
    have e : (Tr.nd l r).leaves.length = l.leaves.length + r.leaves.length := List.length_append
    rw [e]
    show 0 ≤ l.sg + r.sg + sgO l.col r.col ∧ l.sg + r.sg + sgO l.col r.col + 1 ≤ _
    omega
theorem treC_sg {cor : List Nat} {x : Int} : 0 ≤ (treC cor x).sg ∧ (treC cor x).sg ≤ 4 := by
  have h := sg_bnd (treC cor x)
  rw [show (treC cor x).leaves.length = 5 by rw [treC, treeOf_leaves]; rfl] at h
  omega
/-- in a painting that both trees like, both signs change alike -/
theorem both {cor : List Nat} (h : goodC cor) (x y : Int) (g : ∀ p ∈ shp x ++ shp y, cor.getD p.1 0 ≠ cor.getD p.2 0) : toldC cor (shp x) = toldC cor (shp y) ∧ (byT 4 (nestF (wordC cor) x) 0).2 = (treC cor x).sg ∧ (4 - 2 * (treC cor x).sg - (4 - 2 * (treC cor y).sg)).fmod 4 = 0 := by
  have gx : ∀ p ∈ shp x, cor.getD p.1 0 ≠ cor.getD p.2 0 := fun p hp => g p (List.mem_append_left _ hp)
  have gy : ∀ p ∈ shp y, cor.getD p.1 0 ≠ cor.getD p.2 0 := fun p hp => g p (List.mem_append_right _ hp)
  have no : ∀ z, (∀ p ∈ shp z, cor.getD p.1 0 ≠ cor.getD p.2 0) → ¬ (shp z).any (alike cor) = true := fun z gz ha => by
    obtain ⟨q, hq, eq⟩ := List.any_eq_true.mp ha
    exact gz q hq (beq_iff_eq.mp eq)
  refine ⟨by rw [toldC, toldC, if_neg (no x gx), if_neg (no y gy)], ?_, ?_⟩
  · rw [nest_treC]
    exact (byT_tree (treC_isL h) (by rw [treC, treeOf_leaves]; rfl)).2 ((treC_told h x).2 gx).1
  · have a := ((treC_told h x).2 gx).2
    have b := ((treC_told h y).2 gy).2
    rw [Int.fmod_eq_emod_of_nonneg _ (by decide)]
    omega
theorem text_len : ∀ T : Tr, T.text.length + 2 = 3 * T.leaves.length
  | .lf _ => rfl
  | .nd l r => by
    have h1 := text_len l
    have h2 := text_len r
    have e : (Tr.nd l r).leaves.length = l.leaves.length + r.leaves.length := List.length_append
    rw [e]
    show (40 :: (l.text ++ (r.text ++ [41]))).length + 2 = _
    rw [List.length_cons, List.length_append, List.length_append, List.length_singleton]
    omega
theorem text_sg : ∀ T : Tr, (∀ c ∈ T.leaves, isL c) → ∀ c ∈ T.text, isSg c
  | .lf c, h => fun d hd => by
    rw [List.mem_singleton.mp hd]
    exact .inr (.inr (h c (.head _)))
  | .nd l r, h => fun d hd => by
    have hd : d ∈ 40 :: (l.text ++ (r.text ++ [41])) := hd
    rcases List.mem_cons.mp hd with e | hd
    · exact .inl e
    · rcases List.mem_append.mp hd with hd | hd
      · exact text_sg l (fun c hc => h c (List.mem_append_left _ hc)) d hd
      · rcases List.mem_append.mp hd with hd | hd
        · exact text_sg r (fun c hc => h c (List.mem_append_right _ hc)) d hd
        · exact .inr (.inl (List.mem_singleton.mp hd))
theorem nest_len5 {cor : List Nat} {x : Int} : (nestF (wordC cor) x).cps.size = 13 := by
  rw [nest_treC]
  have h := text_len (treC cor x)
  rw [show (treC cor x).leaves.length = 5 by rw [treC, treeOf_leaves]; rfl] at h
  have e : (textS (treC cor x)).cps.size = (treC cor x).text.length := List.size_toArray
  omega
theorem nest_sg5 {cor : List Nat} (h : goodC cor) {x : Int} : ∀ c ∈ (nestF (wordC cor) x).cps.toList, isSg c := by
  rw [nest_treC]
  exact text_sg _ (treC_isL h)
/-- the chords of the law's own word -/
theorem chords_shp (x : Int) : chGo (nestF (PySem.Str.ofString "rgbrg") x).cps.toList [] 0 [] = some (shp x) ∧ (nestF (PySem.Str.ofString "rgbrg") x).cps.size = 13 := by
  have e0 : PySem.Str.ofString "rgbrg" = ⟨#[114, 103, 98, 114, 103]⟩ := by decide +kernel
  rw [e0, nestF_tree]
  have hl : ∀ c ∈ (treeOf 114 103 98 114 103 x).leaves, isL c := by
    rw [treeOf_leaves]
    exact FMC.all ⟨.inl rfl, FMC.all ⟨.inr (.inl rfl), FMC.all ⟨.inr (.inr rfl), FMC.all ⟨.inl rfl, FMC.all ⟨.inr (.inl rfl), List.forall_mem_nil _⟩⟩⟩⟩⟩
  have e := chGo_text (treeOf 114 103 98 114 103 x) [] [] 0 [] hl
  rw [List.append_nil, treeOf_shp] at e
  have h := text_len (treeOf 114 103 98 114 103 x)
  rw [treeOf_leaves] at h
  have h : (treeOf 114 103 98 114 103 x).text.length + 2 = 15 := h
  have e2 : (textS (treeOf 114 103 98 114 103 x)).cps.size = (treeOf 114 103 98 114 103 x).text.length := List.size_toArray
  exact ⟨e, by omega⟩
theorem tab_len : ∀ i, i < 24 → (tabC.getD i []).length = 4 := by decide +kernel
theorem shp_len (x : Int) : (shp x).length = 4 := by
  obtain ⟨i, hi, e⟩ := shp_per x
  rw [e, shp_tab i hi, tab_len i hi]
end Mine
namespace Mine
/-- the corners that the figures lead to -/
noncomputable def corL : List Nat → Nat → List Nat
  | [], a => [a]
  | f :: r, a => a :: corL r (a ^^^ (f + 1))
noncomputable def dg (x k : Nat) : Nat := x / 3 ^ k % 3
noncomputable def figL (x : Nat) : List Nat := [dg x 0, dg x 1, dg x 2, dg x 3, dg x 4]
theorem dg_lt {x k : Nat} : dg x k < 3 := Nat.mod_lt _ (by decide)
theorem figL_lt {x : Nat} : ∀ f ∈ figL x, f < 3 := FMC.all ⟨dg_lt, FMC.all ⟨dg_lt, FMC.all ⟨dg_lt, FMC.all ⟨dg_lt, FMC.all ⟨dg_lt, List.forall_mem_nil _⟩⟩⟩⟩⟩
theorem xor_step : ∀ a, a < 4 → ∀ f, f < 3 → a ^^^ (f + 1) < 4 ∧ a ≠ a ^^^ (f + 1) ∧ (a ^^^ (a ^^^ (f + 1))) - 1 = f := by decide +kernel
theorem corL_lt : ∀ (fs : List Nat) (a : Nat), a < 4 → (∀ f ∈ fs, f < 3) → ∀ x ∈ corL fs a, x < 4
  | [], a, ha, _, x, hx => by rw [List.mem_singleton.mp hx]; exact ha
  | f :: r, a, ha, h, x, hx => by
    rcases List.mem_cons.mp hx with rfl | hx
    · exact ha
    · exact corL_lt r _ (xor_step a ha f (h f (.head _))).1 (fun g hg => h g (.tail _ hg)) x hx
theorem corL_head (fs : List Nat) (a : Nat) : (corL fs a).getD 0 0 = a := by cases fs <;> rfl
theorem corL_edge : ∀ (fs : List Nat) (a : Nat), a < 4 → (∀ f ∈ fs, f < 3) → ∀ i, i < fs.length → (corL fs a).getD i 0 ≠ (corL fs a).getD (i + 1) 0 ∧ edg (corL fs a) i = fs.getD i 0
  | f :: r, a, ha, h, 0, _ => by
    have s := xor_step a ha f (h f (.head _))
    have e : (corL (f :: r) a).getD 1 0 = a ^^^ (f + 1) := corL_head r _
    show a ≠ (corL (f :: r) a).getD 1 0 ∧ (a ^^^ (corL (f :: r) a).getD 1 0) - 1 = f
    rw [e]
    exact s.2
  | f :: r, a, ha, h, i + 1, hi => corL_edge r _ (xor_step a ha f (h f (.head _))).1 (fun g hg => h g (.tail _ hg)) i (Nat.lt_of_succ_lt_succ hi)
theorem corL_good (x : Nat) : goodC (corL (figL x) 0) :=
  ⟨rfl, corL_lt _ 0 (by decide) figL_lt, fun i hi => (corL_edge _ 0 (by decide) figL_lt i (Nat.lt_of_succ_lt_succ hi)).1⟩
theorem corL_word (x : Nat) : wordC (corL (figL x) 0) = ⟨#[letN (dg x 0), letN (dg x 1), letN (dg x 2), letN (dg x 3), letN (dg x 4)]⟩ := by
  have k : ∀ i, i < 5 → edg (corL (figL x) 0) i = (figL x).getD i 0 := fun i hi => (corL_edge _ 0 (by decide) figL_lt i hi).2
  rw [wordC, k 0 (by decide), k 1 (by decide), k 2 (by decide), k 3 (by decide), k 4 (by decide)]; rfl
theorem goodR_C {cs : List (Nat × Nat)} {R : List Nat} (h : goodR cs R) (h6 : R.length = 6) (hc : ∀ p ∈ cs, p.2 ≤ 5) : goodC R ∧ ∀ p ∈ cs, R.getD p.1 0 ≠ R.getD p.2 0 :=
  ⟨⟨h6, h.2.2.2.1, fun i hi => h.2.2.2.2.1 i (by rw [h6]; exact hi)⟩, fun p hp => h.2.2.2.2.2 p hp (by rw [h6]; exact Nat.lt_succ_of_le (hc p hp))⟩
/-- the painting of two trees -/
theorem painted (n : Nat) (x y : Int) : ∃ R, dfs (figL n) (shp x ++ shp y) 364 [[0]] = some R ∧ goodC R ∧ ∀ p ∈ shp x ++ shp y, R.getD p.1 0 ≠ R.getD p.2 0 := by
  obtain ⟨S, gS, hS⟩ := four x y
  have hc : ∀ p ∈ shp x ++ shp y, p.1 < p.2 ∧ p.2 ≤ 5 := fun p hp => by
    rcases List.mem_append.mp hp with hp | hp
    · exact shp_lt p hp
    · exact shp_lt p hp
  obtain ⟨R, e, gR, h6⟩ := dfs_start figL_lt (fun p hp => (hc p hp).1) gS hS
  obtain ⟨g1, g2⟩ := goodR_C gR h6 fun p hp => (hc p hp).2
  exact ⟨R, e, g1, g2⟩
end Mine
end
section
open PySem PySem.W PyProof.Rows PySem.Calls PySem.Spec PyProof.Rows.LCg
open PyProof.V PySem.SeqAt
namespace Mine
section
variable {prog : PySem.Program} {w : World} {A : Around} {E : Value → Shared → Prop} {s : Shared} {h₀ : Heap} {L : Addr} {m : PySem.Str → Option Value} {news : Led} {Q : Value → Shared → Prop}
theorem my_all {vs : List Value} {bs : List Bool} {n : Nat} {l : Addr} {ok : Bool} (hh : A.handled = none) (F : Fr h₀ L s.heap m) (N : News h₀ L s.heap news) (hm : (l, W.listOf vs.toArray n) ∈ news) (hb : LSm.BoolsAre vs bs) (e : bs.all id = ok)
    (h : ∀ h' tk, Fr h₀ L h' m → News h₀ L h' news → Q (.bool ok) { s with heap := h', toks := tk }) : wpAny (model prog w) A (call (.builtin "all") [.ref l]) Q E s := by
  subst e
  exact LSm.all_bools F N hh (isList_of N hm) hb h
end
section
variable {prog : PySem.Program} {w : World} {A : Around} {E : Value → Shared → Prop} {s : Shared} {env : Env} {h₀ : Heap} {x : PySem.Str} {body : List Stmt} {Q : Flow → Shared → Prop}
theorem ListIndQ {I : Addr} {lp : Addr × Obj} (P : List Value → (PySem.Str → Option Value) → Led → Prop)
    (turn : ∀ v us m nw, P (v :: us) m nw → ∀ (it : Obj) h tk (Q' : Flow → Shared → Prop) (E' : Value → Shared → Prop), (∀ {h' tk' m' all}, Fr h₀ env.locals h' m' → News h₀ env.locals h' all → ∀ nw', (∀ p ∈ (I, it) :: nw', p ∈ all) → (∀ p ∈ nw', p.1 ≠ I) → (lp ∈ nw' ∧ P us m' nw') → Q' .next { s with heap := h', toks := tk' }) → Fr h₀ env.locals h (fun y => if y = x then some v else m y) → News h₀ env.locals h ((I, it) :: nw) →
      wpAny (model prog w) A (execs body env) Q' E' { s with heap := h, toks := tk })
    (done : ∀ m nw, P [] m nw → ∀ h tk, Fr h₀ env.locals h m → News h₀ env.locals h nw → Q .next { s with heap := h, toks := tk }) :
    ∀ us m nw, P us m nw → ListRest prog w A E h₀ env x body Q s I lp us m nw :=
  ListInd P (fun v us m nw h it hp tk hc F N => wpAny_mono (turn v us m nw h it hp tk (UnrPost h₀ env.locals { s with heap := hp, toks := tk } I it (fun m' n' => lp ∈ n' ∧ P us m' n') Q) E (fun F' N' nw' sub off r => UnrEnd.intro (s₁ := { s with heap := hp, toks := tk }) F' N' nw' sub off r) F N) (fun _ _ p => p) fun _ _ e => e) done
end
section
variable {prog : PySem.Program} {w : World} {A : Around} {h₀ : Heap} {L : Addr} {m : PySem.Str → Option Value} {env : Env} {c elt : PySem.Expr} {scope : Scope} {cl : List (PySem.Str × Addr)} {s : Shared} {news : Led}
variable {a b : PySem.Str} {i0 : Led → Prop} {keep : Led} {Fin : Nat → List Value → Led → Prop}
/-- a comprehension over pairs of numbers, with a test; each gives a truth value -/
theorem mrest_pairsB (bf ef : Nat × Nat → Bool) (P : Nat × Nat → Prop)
    (turn : ∀ (p : Nat × Nat) t u its C oC D m₂ ys h tk (E' : Value → Shared → Prop), P p → i0 its → LCg.NsObj oC m₂ → m₂ a = some (.int ((p.1 : Nat) : Int) t) → m₂ b = some (.int ((p.2 : Nat) : Int) u) → Fr h₀ L h m → News h₀ L h ((C, oC) :: (D, LCg.lst ys) :: (news ++ its)) →
      (∀ q ∈ news, q.1 ≠ C ∧ q.1 ≠ D) → (∀ q ∈ news, ∀ z ∈ its, q.1 ≠ z.1) → (∀ q ∈ its, q.1 ≠ C ∧ q.1 ≠ D) → (@Ne Nat C D) →
      wpAny (model prog w) A (isTrue c (compEnvC scope cl C env) (eval c (compEnvC scope cl C env))) (fun ok s' => if ok = true then
        wpAny (model prog w) A (eval elt (compEnvC scope cl C env)) (MEnd h₀ L m { s with heap := h, toks := tk } C oC D (LCg.lst ys) its keep (fun _ y news' => news' = news ∧ bf p = true ∧ y = .bool (ef p))) E' s'
        else MEnd h₀ L m { s with heap := h, toks := tk } C oC D (LCg.lst ys) its keep (fun _ _ news' => news' = news ∧ bf p = false) .none s') E' { s with heap := h, toks := tk }) :
    ∀ (ts : List (Addr × Value × Value)) (ps : List (Nat × Nat)) (ys : List Value) (bs : List Bool) (n : Nat), PrsAre ts ps → (∀ p ∈ ps, P p) → LSm.BoolsAre ys bs →
      (∀ (n' : Nat) (zs : List Value) (cs : List Bool), LSm.BoolsAre zs cs → cs.all id = (bs.all id && ps.all fun p => !bf p || ef p) → Fin n' zs news) →
      MRest prog w A h₀ L m env (some c) elt a b scope cl s i0 keep Fin (ts.map fun e => (fun _ => e.2.1, fun _ => e.2.2)) n ys news := by
  intro ts
  induction ts with
  | nil =>
    intro ps ys bs n hps hP hy fin
    cases ps with
    | cons => exact hps.elim
    | nil => exact fin n ys bs hy (by rw [List.all_nil, Bool.and_true])
  | cons x ts ih =>
    intro ps ys bs n hps hP hy fin
    cases ps with
    | nil => exact hps.elim
    | cons p ps =>
      obtain ⟨⟨t, u, ex⟩, hts⟩ := hps
      rw [List.map_cons]
      refine MRest.consT ?_
      intro t' u' its C oC D m₂ h tk E' hk hi hC ha hb F N off offI offC ne
      rw [ex] at ha hb
      refine wpAny_mono (turn p t u its C oC D m₂ ys h tk E' (hP _ (.head _)) hi hC ha hb F N off offI offC ne) (fun ok s₂ hq => ?_) fun _ _ e => e
      cases ok with
      | true =>
        rw [if_pos rfl] at hq ⊢
        refine wpAny_mono hq (fun z s₃ hq => ?_) fun _ _ e => e
        intro G k
        refine hq G ?_
        intro h' tk' news' e' F' N' o1 o2 hkp hr
        obtain ⟨hn, hb, he⟩ := hr
        subst hn
        refine k h' tk' _ e' F' N' o1 o2 hkp (ih ps (ys ++ [z]) (bs ++ [ef p]) tk' hts (fun q hq => hP q (.tail _ hq)) (by rw [he]; exact kbo_app hy (.cons _ .nil)) fun n' zs cs hz hl => fin n' zs cs hz ?_)
        rw [hl, List.all_append, List.all_cons, List.all_cons, hb, List.all_nil, Bool.and_true, Bool.not_true, Bool.false_or, Bool.and_assoc]; rfl
      | false =>
        rw [if_neg Bool.false_ne_true] at hq ⊢
        intro G k
        refine hq G ?_
        intro h' tk' news' e' F' N' o1 o2 hkp hr
        obtain ⟨hn, hb⟩ := hr
        subst hn
        refine k h' tk' _ e' F' N' o1 o2 hkp (ih ps ys bs tk' hts (fun q hq => hP q (.tail _ hq)) hy fun n' zs cs hz hl => fin n' zs cs hz ?_)
        rw [hl, List.all_cons, hb, Bool.not_false, Bool.true_or, Bool.true_and]
end
/-- the rows that the pile grows by -/
noncomputable def kidsR (figs : List Nat) (cs : List (Nat × Nat)) (row : List Nat) : List Nat → List (List Nat) → List (List Nat)
  | [], st => st
  | t :: ts, st => kidsR figs cs row ts (kid figs cs row t st)
theorem dfs_turn {figs : List Nat} {cs : List (Nat × Nat)} {n : Nat} {row R : List Nat} {st : List (List Nat)} (h : dfs figs cs n (row :: st) = some R) (hl : row.length < 6) : ∃ n', n' + 1 = n ∧ dfs figs cs n' (kidsR figs cs row [2, 1, 0] st) = some R := by
  cases n with
  | zero => rw [dfs] at h; cases h
  | succ n => rw [dfs, if_pos hl] at h; exact ⟨n, rfl, h⟩
theorem dfs_done {figs : List Nat} {cs : List (Nat × Nat)} {n : Nat} {row R : List Nat} {st : List (List Nat)} (h : dfs figs cs n (row :: st) = some R) (hl : ¬ row.length < 6) : row = R := by
  cases n with
  | zero => rw [dfs] at h; cases h
  | succ n => rw [dfs, if_neg hl] at h; exact Option.some.inj h
theorem dfs_pop {figs : List Nat} {cs : List (Nat × Nat)} {n : Nat} {R : List Nat} {st : List (List Nat)} (h : dfs figs cs n st = some R) : ∃ r s', st = r :: s' := by
  cases st with
  | nil => cases n <;> (rw [dfs] at h; cases h)
  | cons r s' => exact ⟨r, s', rfl⟩
theorem pt_eq0 : ∀ a, a < 4 → ∀ f, f < 3 → ∀ t, t < 3 → Builtin.bitXor ((a : Nat) : Int) ((((f : Nat) : Int) + ((t : Nat) : Int)).fmod 3 + 1) = ((a ^^^ ((f + t) % 3 + 1) : Nat) : Int) ∧ (a ^^^ ((f + t) % 3 + 1)) < 4 := by decide +kernel
/-- a row such as lies in the pile -/
noncomputable def okR (r : List Nat) : Prop := 1 ≤ r.length ∧ r.length ≤ 6 ∧ ∀ x ∈ r, x < 4
theorem okR.snoc {r : List Nat} {x : Nat} (h : okR r) (hl : r.length < 6) (hx : x < 4) : okR (r ++ [x]) := by
  refine ⟨?_, ?_, fun y hy => (List.mem_append.mp hy).elim (h.2.2 y) fun h => by rw [List.mem_singleton.mp h]; exact hx⟩
  · rw [List.length_append]; exact Nat.le_add_left 1 _
  · rw [List.length_append]; exact hl
theorem kid_lt {figs row : List Nat} {t : Nat} (hf : ∀ x ∈ figs, x < 3) (h : okR row) (ht : t < 3) : Builtin.bitXor ((row.getD (row.length - 1) 0 : Nat) : Int) ((((figs.getD (row.length - 1) 0 : Nat) : Int) + ((t : Nat) : Int)).fmod 3 + 1) = ((paintOf figs row t : Nat) : Int) ∧ paintOf figs row t < 4 :=
  pt_eq0 _ (getD_lt h.2.2) _ (figs_lt hf _) t ht
end Mine
namespace Mine
theorem RowsAre.split {led : Led} {r : List Nat} : ∀ {vs : List Value} {rs : List (List Nat)}, RowsAre led vs (rs ++ [r]) → ∃ p a ws k, vs = p ++ [.ref a] ∧ (a, W.listOf ws.toArray k) ∈ led ∧ IntsAre ws (castL r) ∧ RowsAre led p rs
  | [], [], h => h.elim
  | [], _ :: _, h => h.elim
  | v :: vs, [], h => by
    obtain ⟨⟨a, ws, k, e, hm, hi⟩, h2⟩ := h
    cases vs with
    | nil => exact ⟨[], a, ws, k, by rw [e]; rfl, hm, hi, True.intro⟩
    | cons _ _ => exact h2.elim
  | v :: vs, q :: rs, ⟨h1, h2⟩ => by
    obtain ⟨p, a, ws, k, e, hm, hi, h3⟩ := RowsAre.split h2
    exact ⟨v :: p, a, ws, k, by rw [e]; rfl, hm, hi, h1, h3⟩
theorem last_at {vs : List Value} {r : List Nat} (h : IntsAre vs (castL r)) (h1 : 1 ≤ r.length) : ∃ t, vs[vs.length - 1]? = some (.int ((r.getD (r.length - 1) 0 : Nat) : Int) t) := by
  have hl : vs.length = r.length := by rw [ints_len h]
  rw [hl]
  exact nats_at h (j := r.length - 1) (Nat.sub_lt h1 Nat.one_pos)
/-- the search, ahead of a round: the row on top and the pile -/
noncomputable def PdP (L1 Dp Df D : Addr) (figs : List Nat) (ps : List (Nat × Nat)) (R : List Nat) (news : Led) (n : Nat) (m : PySem.Str → Option Value) (nw : Led) : Prop :=
  ∀ C : Led → Prop, (∀ (row : List Nat) (st : List (List Nat)) (Dr : Addr) (rv pv : List Value) (kr np : Nat) (oP oK oR : Obj) (vP vK : Option Value) (rws : Led),
    dfs figs ps n (row :: st) = some R → okR row → (∀ r ∈ st, okR r) → st.length + 2 * n ≤ 800 → RowsAre rws pv st.reverse → (Dr, W.listOf rv.toArray kr) ∈ rws → IntsAre rv (castL row) →
    oP.data = .cell vP → oK.data = .cell vK → oR.data = .cell (some (.ref Dr)) → (∀ q ∈ rws ++ news, q.1 ≠ Dp ∧ q.1 ≠ L1 + 1 ∧ q.1 ≠ L1 + 1 + 1 ∧ q.1 ≠ L1 + 1 + 1 + 1) → (∀ q ∈ rws, ∀ z ∈ news, z.1 ≠ q.1) →
    m (PySem.Str.ofString "figures") = some (.ref Df) → m (PySem.Str.ofString "chords") = some (.ref D) → m (PySem.Str.ofString "pile") = some (.ref Dp) →
    C ((Dp, W.listOf pv.toArray np) :: (L1 + 1 + 1 + 1, oP) :: (L1 + 1 + 1, oK) :: (L1 + 1, oR) :: (rws ++ news))) → C nw
/-- the search behind its last round -/
noncomputable def PdX (L1 : Addr) (R : List Nat) (news : Led) (m : PySem.Str → Option Value) (nw : Led) : Prop :=
  ∀ C : Led → Prop, (∀ (Dr : Addr) (rv : List Value) (kr : Nat) (oR : Obj), IntsAre rv (castL R) → oR.data = .cell (some (.ref Dr)) → (∀ z ∈ news, z.1 ≠ Dr) → C ((Dr, W.listOf rv.toArray kr) :: (L1 + 1, oR) :: news)) → C nw
/-- the three paints -/
noncomputable def PeP (I L1 Dp Df D Dr : Addr) (lp : Addr × Obj) (figs : List Nat) (ps : List (Nat × Nat)) (row R : List Nat) (rv : List Value) (kr : Nat) (oK oR : Obj) (news : Led) (n : Nat) (us : List Value) (m : PySem.Str → Option Value) (nw : Led) : Prop :=
  ∀ C : Led → Prop, (∀ (tl : List (Nat × Tok)) (st : List (List Nat)) (pv : List Value) (np : Nat) (oP : Obj) (vP : Option Value) (rws : Led), us = tl.map (fun e => Value.int ((e.1 : Nat) : Int) e.2) → (∀ e ∈ tl, e.1 < 3) →
    dfs figs ps n (kidsR figs ps row (tl.map Prod.fst) st) = some R → (∀ r ∈ st, okR r) → st.length + tl.length + 2 * n ≤ 801 → RowsAre rws pv st.reverse → (Dr, W.listOf rv.toArray kr) ∈ rws →
    oP.data = .cell vP → (∀ q ∈ rws ++ news, q.1 ≠ Dp ∧ q.1 ≠ L1 + 1 ∧ q.1 ≠ L1 + 1 + 1 ∧ q.1 ≠ L1 + 1 + 1 + 1 ∧ q.1 ≠ I) → (∀ q ∈ rws, ∀ z ∈ news, z.1 ≠ q.1) →
    m (PySem.Str.ofString "figures") = some (.ref Df) → m (PySem.Str.ofString "chords") = some (.ref D) → m (PySem.Str.ofString "pile") = some (.ref Dp) →
    C ((Dp, W.listOf pv.toArray np) :: (L1 + 1 + 1 + 1, oP) :: (L1 + 1 + 1, oK) :: (L1 + 1, oR) :: lp :: (rws ++ news))) → C nw
end Mine
namespace Mine
theorem ledP {news : Led} {a b c d e : Addr × Obj} : ∀ p ∈ a :: b :: c :: d :: ([e] ++ news), p ∈ a :: e :: b :: c :: d :: news := by
  intro p hp
  simp only [List.mem_cons, List.mem_append, List.not_mem_nil, or_false] at hp ⊢
  grind
end Mine
namespace Mine
section
variable {prog : PySem.Program} {w : World} {A : Around} {E : Value → Shared → Prop} {s : Shared} {env : Env} {test : PySem.Expr} {body : List Stmt} {Q : Flow → Shared → Prop} {h₀ : Heap}
/-- as WhileStartQ; what passes out of the loop is told within too -/
theorem WhileStartP {pos : Pos} {n : Nat} {m : PySem.Str → Option Value} {nw : Led} (P : Nat → (PySem.Str → Option Value) → Led → Prop) (X : (PySem.Str → Option Value) → Led → Prop) (hE : PassesOwn (model prog w) A env E) (F : Fr h₀ env.locals s.heap m) (N : News h₀ env.locals s.heap nw) (h : P n m nw)
    (turn : ∀ n m nw, P n m nw → ∀ h tk (Qb Qn : Flow → Shared → Prop) (E' : Value → Shared → Prop), PassesOwn (model prog w) A env E' →
      (∀ {h' tk' m' all}, Fr h₀ env.locals h' m' → News h₀ env.locals h' all → ∀ nw', (∀ p ∈ nw', p ∈ all) → (∃ n', n' < n ∧ P n' m' nw') → Qb .next { s with heap := h', toks := tk' }) →
      (∀ {h' tk' m' all}, Fr h₀ env.locals h' m' → News h₀ env.locals h' all → ∀ nw', (∀ p ∈ nw', p ∈ all) → X m' nw' → Qn .next { s with heap := h', toks := tk' }) → Fr h₀ env.locals h m → News h₀ env.locals h nw →
      wpAny (model prog w) A (isTrue test env (eval test env)) (fun b s₂ => WhlIf b (wpAny (model prog w) A (execs body env) Qb E' s₂) (wpAny (model prog w) A (execs [] env) Qn E' s₂)) E' { s with heap := h, toks := tk })
    (done : ∀ m nw, X m nw → ∀ h tk, Fr h₀ env.locals h m → News h₀ env.locals h nw → Q .next { s with heap := h, toks := tk }) :
    wpAny (model prog w) A (exec (.While test body [] pos) env) Q E s :=
  WhileStart P hE F N h fun n m nw hP h tk F N => turn n m nw hP h tk (MWPost h₀ env.locals s (fun m' nw' => ∃ n', n' < n ∧ P n' m' nw') Q) Q E hE (fun F N nw' sub r => MWEnd.intro F N nw' sub r) (fun F N nw' sub x => done _ nw' x _ _ F (newsSub N sub)) F N
end
end Mine
namespace Mine
theorem ledQ {l : Led} {a b c d e : Addr × Obj} : ∀ p ∈ a :: b :: c :: d :: e :: l, p ∈ e :: a :: b :: c :: d :: l := by
  intro p hp
  simp only [List.mem_cons] at hp ⊢
  grind
theorem nats_at1 {vs : List Value} {r : List Nat} {k : Nat} (h : IntsAre vs (castL r)) (h1 : 1 ≤ k) (hk : k ≤ r.length) : ∃ t, vs[(((k : Nat) : Int) - 1).toNat]? = some (.int ((r.getD (k - 1) 0 : Nat) : Int) t) := by
  have e : ((k : Nat) : Int) - 1 = ((k - 1 : Nat) : Int) := (Int.ofNat_sub h1).symm
  rw [e]
  exact nats_at h (Nat.lt_of_lt_of_le (Nat.sub_lt h1 Nat.one_pos) hk)
theorem cast_sub1 {k : Nat} (h1 : 1 ≤ k) (h6 : k ≤ 6) : 0 ≤ ((k : Nat) : Int) - 1 ∧ ((k : Nat) : Int) - 1 < 2 ^ 63 := by omega
theorem all3 {P : Nat × Tok → Prop} {a b c : Nat × Tok} (ha : P a) (hb : P b) (hc : P c) : ∀ e ∈ [a, b, c], P e := FMC.all ⟨ha, FMC.all ⟨hb, FMC.all ⟨hc, List.forall_mem_nil _⟩⟩⟩
end Mine
namespace Mine
theorem three_toks {C : Prop} {h₀ h : Heap} {L D : Addr} {a b c : Tok} {n : Nat} {l : Led} (N : News h₀ L h ((D, W.listOf #[Value.int 2 a, Value.int 1 b, Value.int 0 c] n) :: l)) (k : ∀ a b c, News h₀ L h ((D, W.listOf [Value.int 2 a, Value.int 1 b, Value.int 0 c].toArray n) :: l) → C) : C := k a b c N
end Mine
namespace Mine
theorem ne_bool (a b : Nat) : Value.bool (((a : Nat) : Int) != ((b : Nat) : Int)) = Value.bool (!(a == b)) := by
  by_cases h : a = b
  · subst h; simp
  · have h2 : ¬ ((a : Nat) : Int) = ((b : Nat) : Int) := fun e => h (Int.ofNat.inj e)
    rw [bne, beq_eq_false_iff_ne.mpr h2, beq_eq_false_iff_ne.mpr h]
end Mine
end
section
open PySem PySem.W PyProof.Rows PySem.Calls PySem.Spec PyProof.Rows.LCg
open PyProof.V PySem.SeqAt
namespace Mine
theorem ints_1 {zs : List Value} {a : Int} {l : List Int} (h : IntsAre zs (a :: l)) : ∃ t us, zs = .int a t :: us ∧ IntsAre us l := by
  cases h with
  | cons _ t h => exact ⟨t, _, rfl, h⟩
theorem ints_0 {zs : List Value} (h : IntsAre zs []) : zs = [] := by
  cases h
  rfl
theorem add3 (l : List Int) : ∃ a b c : Int, [] ++ List.zipWith (fun x y => x + y) [9, 2, 184] (List.take 3 l ++ (List.replicate (Int.toNat 3) [(0 : Int)]).flatten) = [a, b, c] :=
  match l with
  | [] => ⟨_, _, _, rfl⟩
  | [_] => ⟨_, _, _, rfl⟩
  | [_, _] => ⟨_, _, _, rfl⟩
  | _ :: _ :: _ :: _ => ⟨_, _, _, rfl⟩
theorem nums3 {zs : List Value} {l : List Int} (h : IntsAre zs ([] ++ List.zipWith (fun x y => x + y) [9, 2, 184] (List.take 3 l ++ (List.replicate (Int.toNat 3) [(0 : Int)]).flatten))) : ∃ (a b c : Int) (ta tb tc : Tok), zs = [.int a ta, .int b tb, .int c tc] := by
  obtain ⟨a, b, c, e⟩ := add3 l
  rw [e] at h
  obtain ⟨ta, u1, e1, h1⟩ := ints_1 h
  obtain ⟨tb, u2, e2, h2⟩ := ints_1 h1
  obtain ⟨tc, u3, e3, h3⟩ := ints_1 h2
  exact ⟨a, b, c, ta, tb, tc, by rw [e1, e2, e3, ints_0 h3]⟩
end Mine
namespace Mine
theorem frGen4 {C : Prop} {h₀ h : Heap} {L : Addr} {m : PySem.Str → Option Value} {a b c d : PySem.Str} {va vb vc vd : Value} (F : Fr h₀ L h m) (ha : m a = some va) (hb : m b = some vb) (hc : m c = some vc) (hd : m d = some vd) (k : ∀ m0 : PySem.Str → Option Value, Fr h₀ L h (fun y => if y = a then some va else if y = b then some vb else if y = c then some vc else if y = d then some vd else m0 y) → C) : C := k m (mx4 ha hb hc hd ▸ F)
/-- the word's first letters -/
noncomputable def wdN (x : Nat) : Nat → List Nat
  | 0 => []
  | i + 1 => wdN x i ++ [letN (dg x i)]
/-- the figures being told, one by one -/
noncomputable def LfP (I B1 B2 : Addr) (oA oB : Obj) (T30 T37 : Obj → Led → Prop) (x : Nat) (ways other : Int) (ta tb : Tok) (k i : Nat) (m : PySem.Str → Option Value) (nw : Led) : Prop :=
  ∀ C : Led → Prop, (∀ (o30 o37 : Obj) (ext : Led) (tl tw : Tok), k + i = 5 → T30 o30 ext → T37 o37 ext → (∀ q ∈ ext, @LT.lt Nat _ 44 q.1 ∧ q.1 ≠ B1 ∧ q.1 ≠ B2 ∧ q.1 ≠ I) →
    m (PySem.Str.ofString "ways") = some (.int ways ta) → m (PySem.Str.ofString "other") = some (.int other tb) → m (PySem.Str.ofString "left") = some (.int ((x / 3 ^ i : Nat) : Int) tl) → m (PySem.Str.ofString "word") = some (.str ⟨(wdN x i).toArray⟩ tw) →
    C ((37, o30) :: (44, o37) :: (B2, oB) :: (B1, oA) :: ext)) → C nw
theorem mod_243 (x : Int) : ∃ X : Nat, x.fmod 243 = (X : Int) ∧ X < 243 := by
  have h1 : 0 ≤ x.fmod 243 := Int.fmod_nonneg_of_pos _ (by decide)
  have h2 : x.fmod 243 < 243 := Int.fmod_lt_of_pos _ (by decide)
  exact ⟨(x.fmod 243).toNat, by rw [Int.toNat_of_nonneg h1], by omega⟩
theorem div_3 (x i : Nat) : (((x / 3 ^ i : Nat) : Int)).fdiv 3 = ((x / 3 ^ (i + 1) : Nat) : Int) := by
  rw [show (3 : Int) = ((3 : Nat) : Int) from rfl, ← Int.ofNat_fdiv, Nat.div_div_eq_div_mul, Nat.pow_succ]
theorem mod_3 (x i : Nat) : (((x / 3 ^ i : Nat) : Int)).fmod 3 = ((dg x i : Nat) : Int) := by
  rw [Int.fmod_eq_emod_of_nonneg _ (by decide)]
  exact (Int.natCast_emod _ _).symm
theorem div_60 {x i : Nat} (h : x < 243) : x / 3 ^ i < 2 ^ 60 := Nat.lt_of_le_of_lt (Nat.div_le_self _ _) (Nat.lt_trans h (by decide))
theorem wd_app (x i : Nat) : (⟨(wdN x i).toArray⟩ : PySem.Str) ++ one1 (letN (dg x i)) = ⟨(wdN x (i + 1)).toArray⟩ := by
  refine cps_eq ?_
  show ((wdN x i).toArray ++ #[letN (dg x i)]).toList = _
  simp [wdN]
theorem wdN_len (x : Nat) : ∀ i, (wdN x i).length = i
  | 0 => rfl
  | i + 1 => by rw [wdN, List.length_append, wdN_len x i]; rfl
theorem wdN_5 (x : Nat) : (⟨(wdN x 5).toArray⟩ : PySem.Str) = wordC (corL (figL x) 0) := by rw [corL_word]; rfl
section
variable {prog : PySem.Program} {w : World} {A : Around} {h₀ : Heap} {L : Addr} {m : PySem.Str → Option Value} {env : Env} {elt : PySem.Expr} {nm : PySem.Str} {scope : Scope} {cl : List (PySem.Str × Addr)} {s : Shared} {news : Led}
/-- a comprehension over a range, each place told -/
theorem comp_rng {n : Nat} (R : Nat → Value → Prop) {Sx : Led → Prop} {Fin : List Value → Led → Prop}
    (turn : ∀ i t I oI C oC D m₂ ys h tk (E' : Value → Shared → Prop), i < n → LCg.NsObj oC m₂ → m₂ nm = some (.int ((i : Nat) : Int) t) → Fr h₀ L h m → News h₀ L h ((I, oI) :: (C, oC) :: (D, LCg.lst ys) :: news) → LCg.Off3 I C D news → ((@Ne Nat I C) ∧ (@Ne Nat I D) ∧ (@Ne Nat C D)) →
      wpAny (model prog w) A (eval elt (compEnvC scope cl C env)) (LCg.CompEnd h₀ L m { s with heap := h, toks := tk } I oI C oC D (LCg.lst ys) Sx (fun y news' => news' = news ∧ R i y)) E' { s with heap := h, toks := tk })
    (fin : ∀ ys : List Value, ys.length = n → (∀ i y, ys[i]? = some y → R i y) → Fin ys news) : LCg.CompRest prog w A h₀ L m env elt nm scope cl s Sx (fun i v => ∃ t, v = .int (0 + (i : Int)) t) Fin n 0 [] news := by
  have key : ∀ (j i : Nat) (ys : List Value), i + j = n → ys.length = i → (∀ i y, ys[i]? = some y → R i y) → LCg.CompRest prog w A h₀ L m env elt nm scope cl s Sx (fun i v => ∃ t, v = .int (0 + (i : Int)) t) Fin j i ys news := by
    intro j
    induction j with
    | zero => exact fun i ys hi hl hy => LCg.CompRest.zero (fin ys (hl.trans hi) hy)
    | succ j ih =>
      intro i ys hi hl hy
      refine LCg.CompRest.succ ?_
      intro v I oI C oC D m₂ h tk E' hv hC hx F N off ne
      obtain ⟨t, rfl⟩ := hv
      rw [Int.zero_add] at hx
      refine wpAny_mono (turn i t I oI C oC D m₂ ys h tk E' (by omega) hC hx F N off ne) (fun y s₂ hq => ?_) fun _ _ e => e
      obtain ⟨h', tk', nw, e, F', N', off', hS, hn, hr⟩ := hq
      rw [hn] at N' off' hS
      refine ⟨h', tk', news, e, F', N', off', hS, ih (i + 1) _ (by omega) (by rw [List.length_append, hl]; rfl) fun i' y' hy' => ?_⟩
      rcases Nat.lt_or_ge i' ys.length with hlt | hge
      · exact hy i' y' (by rwa [List.getElem?_append_left hlt] at hy')
      · rw [List.getElem?_append_right hge] at hy'
        have e0 : i' - ys.length = 0 := by
          rcases Nat.eq_zero_or_pos (i' - ys.length) with e | e
          · exact e
          · rw [List.getElem?_eq_none (by rw [List.length_singleton]; exact e)] at hy'; cases hy'
        rw [e0] at hy'
        cases hy'
        have e1 : i' = i := by omega
        rw [e1]; exact hr
  exact key n 0 [] (by omega) rfl (fun _ _ h => by cases h)
end
end Mine
namespace Mine
end Mine
namespace Mine
section
variable {prog : PySem.Program} {w : World} {A : Around} {E : Value → Shared → Prop} {s : Shared} {Q : Value → Shared → Prop} {value slice : PySem.Expr} {t u : Tok}
theorem rgb_item : ∀ k, k < 3 → Txt.item (PySem.Str.ofString "rgb") ((k : Nat) : Int) = one1 (letN k) := by
  intro k hk
  rcases lt3 hk with rfl | rfl | rfl <;> exact cps_eq (by decide +kernel)
theorem my_rgbAt {k : Nat} (hk : k < 3) (h : ∀ t tk, Q (.str (one1 (letN k)) t) { s with toks := tk })
    (hs : subscripted slice false (.str (PySem.Str.ofString "rgb") t) (.int ((k : Nat) : Int) u) = operate [.str (PySem.Str.ofString "rgb") t, .int ((k : Nat) : Int) u] (getItem (.str (PySem.Str.ofString "rgb") t) (.int ((k : Nat) : Int) u)) := by with_unfolding_all rfl)
    (ht : ∀ r, letTemporaryGo value (.str (PySem.Str.ofString "rgb") t) r = pure () := by intro _; with_unfolding_all rfl) :
    wpAny (model prog w) A (subscriptTail value slice (.str (PySem.Str.ofString "rgb") t) (.int ((k : Nat) : Int) u)) Q E s := by
  refine item_str (fitsSsize_of (N := 3) ?_ ?_ (by decide)) ?_ ?_ (fun _ => ?_) hs ht
  · omega
  · omega
  · exact Int.le_trans (Int.neg_nonpos_of_nonneg (Int.natCast_nonneg _)) (Int.natCast_nonneg _)
  · rw [show (PySem.Str.ofString "rgb").length = 3 by decide +kernel]; omega
  · rw [rgb_item k hk]; exact h _ _
theorem my_iaddW {x i : Nat} (hi : i < 5) (h : ∀ t tk, Q (.str ⟨(wdN x (i + 1)).toArray⟩ t) { s with toks := tk }) : wpAny (model prog w) A (inplaceOp .Add (.str ⟨(wdN x i).toArray⟩ t) (.str (one1 (letN (dg x i))) u)) Q E s := by
  refine iadd_str (fun t' tk => ?_) ?_
  · rw [wd_app]; exact h t' tk
  · show (wdN x i).toArray.size + 1 ≤ sizeLine
    rw [List.size_toArray, wdN_len, PySem.sizeLine_eq]
    omega
end
end Mine
namespace Mine
theorem lfSub {i a b c d e : Addr × Obj} {x y : Led} : ∀ p ∈ i :: a :: b :: c :: d :: (x ++ y), p ∈ e :: a :: b :: (x ++ i :: c :: d :: y) := by
  intro p hp
  simp only [List.mem_cons, List.mem_append] at hp ⊢
  grind
end Mine
namespace Mine
theorem pw3 : ∀ i, i < 5 → 0 < 3 ^ i ∧ 3 ^ i < 100 := by decide
theorem my_fdp {prog : PySem.Program} {w : World} {A : Around} {E : Value → Shared → Prop} {s : Shared} {Q : Value → Shared → Prop} {t u : Tok} {x i : Nat} (hi : i < 5) (h : ∀ t, Q (.int ((x / 3 ^ i : Nat) : Int) t) { s with toks := s.toks + 1 }) :
    wpAny (model prog w) A (binaryOp .FloorDiv (.int ((x : Nat) : Int) t) (.int (3 ^ ((i : Nat) : Int).toNat) u)) Q E s := by
  have e : (3 : Int) ^ ((i : Nat) : Int).toNat = ((3 ^ i : Nat) : Int) := by rw [Int.toNat_natCast]; exact (Int.natCast_pow 3 i).symm
  obtain ⟨p1, p2⟩ := pw3 i hi
  rw [e]
  refine floordiv_int (by omega) ?_ (Or.inl (PyProof.noPylong_small (by omega)))
  rw [← Int.ofNat_fdiv]
  exact h _
end Mine
namespace Mine
theorem figs_ints {ys : List Value} {x : Nat} (hl : ys.length = 5) (hy : ∀ (i : Nat) (y : Value), ys[i]? = some y → ∃ t, y = .int ((dg x i : Nat) : Int) t) : IntsAre ys (castL (figL x)) := by
  match ys, hl with
  | [a, b, c, d, e], _ =>
    obtain ⟨t0, rfl⟩ := hy 0 a rfl
    obtain ⟨t1, rfl⟩ := hy 1 b rfl
    obtain ⟨t2, rfl⟩ := hy 2 c rfl
    obtain ⟨t3, rfl⟩ := hy 3 d rfl
    obtain ⟨t4, rfl⟩ := hy 4 e rfl
    exact .cons _ _ (.cons _ _ (.cons _ _ (.cons _ _ (.cons _ _ .nil))))
end Mine
namespace Mine
theorem rgbrg_len : (PySem.Str.ofString "rgbrg").cps.size = 5 := by decide +kernel
theorem c50 {x : PySem.Str} (h : x.cps.size = 13) : x.cps.size ≤ 50 := by rw [h]; decide
theorem chSub {d1 d2 d8 a b c d : Addr × Obj} {x y z : Led} : ∀ p ∈ a :: b :: c :: d :: d8 :: d1 :: d2 :: (x ++ (y ++ z)), p ∈ d2 :: (x ++ d1 :: (y ++ d8 :: a :: b :: c :: d :: z)) := by
  intro p hp
  simp only [List.mem_cons, List.mem_append] at hp ⊢
  grind
end Mine
namespace Mine
theorem mx6 {m : PySem.Str → Option Value} {a b c d e f : PySem.Str} {va vb vc vd ve vf : Value} (ha : m a = some va) (hb : m b = some vb) (hc : m c = some vc) (hd : m d = some vd) (he : m e = some ve) (hf : m f = some vf) : m = fun y => if y = a then some va else if y = b then some vb else if y = c then some vc else if y = d then some vd else if y = e then some ve else if y = f then some vf else m y := by
  funext y; (repeat' split) <;> simp_all
theorem frGen6 {C : Prop} {h₀ h : Heap} {L : Addr} {m : PySem.Str → Option Value} {a b c d e f : PySem.Str} {va vb vc vd ve vf : Value} (F : Fr h₀ L h m) (ha : m a = some va) (hb : m b = some vb) (hc : m c = some vc) (hd : m d = some vd) (he : m e = some ve) (hf : m f = some vf) (k : ∀ m0 : PySem.Str → Option Value, Fr h₀ L h (fun y => if y = a then some va else if y = b then some vb else if y = c then some vc else if y = d then some vd else if y = e then some ve else if y = f then some vf else m0 y) → C) : C := k m (mx6 ha hb hc hd he hf ▸ F)
/-- the corners painted so far -/
noncomputable def CfP (Dl : Addr) (R : List Nat) (ways other : Int) (ta tb : Tok) (wd : PySem.Str) (D8 Dc Dx : Addr) (rest : Led) (us : List Value) (m : PySem.Str → Option Value) (nw : Led) : Prop :=
  ∀ C : Led → Prop, (∀ (pre fs : List Nat) (a : Nat) (cv : List Value) (kc : Nat) (tw : Tok), IntsAre us (castL fs) → pre ++ corL fs a = R → a < 4 → (∀ f ∈ fs, f < 3) → IntsAre cv (castL (pre ++ [a])) → pre.length + fs.length ≤ 10 →
    m (PySem.Str.ofString "ways") = some (.int ways ta) → m (PySem.Str.ofString "other") = some (.int other tb) → m (PySem.Str.ofString "word") = some (.str wd tw) → m (PySem.Str.ofString "figures") = some (.ref D8) → m (PySem.Str.ofString "chords") = some (.ref Dc) → m (PySem.Str.ofString "across") = some (.ref Dx) →
    C ((Dl, W.listOf cv.toArray kc) :: rest)) → C nw
theorem xr_eq : ∀ a, a < 4 → ∀ f, f < 3 → Builtin.bitXor ((a : Nat) : Int) (((f : Nat) : Int) + 1) = ((a ^^^ (f + 1) : Nat) : Int) ∧ a ^^^ (f + 1) < 4 := by decide +kernel
theorem last_sn {cv : List Value} {pre : List Nat} {a : Nat} (h : IntsAre cv (castL (pre ++ [a]))) : (∃ t, cv[cv.length - 1]? = some (.int ((a : Nat) : Int) t)) ∧ 0 < cv.length ∧ cv.length = pre.length + 1 := by
  have hl : cv.length = pre.length + 1 := by rw [ints_len h, List.length_append]; rfl
  refine ⟨?_, by omega, hl⟩
  obtain ⟨t, e⟩ := last_at h (by rw [List.length_append]; exact Nat.le_add_left 1 _)
  rw [List.length_append, List.length_singleton, Nat.add_sub_cancel, getD_app2] at e
  exact ⟨t, e⟩
end Mine
namespace Mine
theorem ints_consN {v : Value} {us : List Value} {f : Nat} {fs : List Nat} (h : IntsAre (v :: us) (castL (f :: fs))) : ∃ t, v = .int ((f : Nat) : Int) t ∧ IntsAre us (castL fs) := by
  have h' : IntsAre (v :: us) (((f : Nat) : Int) :: castL fs) := h
  cases h' with
  | cons _ t r => exact ⟨t, rfl, r⟩
end Mine
namespace Mine
theorem wordC_len {cor : List Nat} : (wordC cor).cps.size = 5 := rfl
theorem c100 {x : PySem.Str} (h : x.cps.size = 13) : x.length ≤ 100 := by
  show x.cps.size ≤ 100
  rw [h]; decide
end Mine
namespace Mine
theorem shp_6 {x : Int} : ∀ p ∈ shp x, p.1 < 6 ∧ p.2 < 6 := fun p hp => by
  have h := shp_lt p hp
  omega
theorem shp_50 {x : Int} : (shp x).length ≤ 50 := by rw [shp_len]; decide
end Mine
namespace Mine
theorem my_ne_same {prog : PySem.Program} {w : World} {A : Around} {E : Value → Shared → Prop} {s : Shared} {Q : Value → Shared → Prop} {x : PySem.Str} {t u : Tok} (h : Q (.bool false) s) : wpAny (model prog w) A (compareOp .NotEq (.str x t) (.str x u)) Q E s := by
  refine ne_str ?_
  rw [bne_self_eq_false]
  exact h
end Mine
namespace Mine
theorem PrsAre.app : ∀ {ts us : List (Addr × Value × Value)} {ps qs : List (Nat × Nat)}, PrsAre ts ps → PrsAre us qs → PrsAre (ts ++ us) (ps ++ qs)
  | [], _, [], _, _, h => h
  | _ :: _, _, _ :: _, _, ⟨h, r⟩, h2 => ⟨h, PrsAre.app r h2⟩
  | [], _, _ :: _, _, x, _ => x.elim
  | _ :: _, _, [], _, x, _ => x.elim
theorem shp2_lt {x y : Int} : ∀ p ∈ shp x ++ shp y, p.1 < p.2 ∧ p.2 ≤ 5 := fun p hp => (List.mem_append.mp hp).elim (shp_lt p) (shp_lt p)
theorem shp2_50 {x y : Int} : (shp x ++ shp y).length ≤ 50 := by rw [List.length_append, shp_len, shp_len]; decide
theorem prs_1000 {ts us : List (Addr × Value × Value)} {x y : Int} (h : PrsAre ts (shp x)) (h2 : PrsAre us (shp y)) : (ts.map fun e => Value.ref e.1).length + (us.map fun e => Value.ref e.1).length ≤ 1000 := by
  rw [List.length_map, List.length_map, h.len, h2.len, shp_len, shp_len]; decide
theorem mem_two {ts us : List (Addr × Value × Value)} {E : Led} (h : ∀ e ∈ ts, (e.1, tup [e.2.1, e.2.2]) ∈ E) (h2 : ∀ e ∈ us, (e.1, tup [e.2.1, e.2.2]) ∈ E) : ∀ e ∈ ts ++ us, (e.1, tup [e.2.1, e.2.2]) ∈ E := fun e he => (List.mem_append.mp he).elim (h e) (h2 e)
theorem edgI0 : ∀ a, a < 4 → ∀ b, b < 4 → a ≠ b → Builtin.bitXor ((a : Nat) : Int) ((b : Nat) : Int) - 1 = (((a ^^^ b) - 1 : Nat) : Int) := by decide +kernel
theorem edgI {R : List Nat} (h : goodC R) {i : Nat} (hi : i < 5) : Builtin.bitXor ((R.getD i 0 : Nat) : Int) ((R.getD (i + 1) 0 : Nat) : Int) - 1 = ((edg R i : Nat) : Int) :=
  edgI0 _ (getD_lt h.2.1) _ (getD_lt h.2.1) (h.2.2 i (Nat.succ_lt_succ hi))
section
variable {prog : PySem.Program} {w : World} {A : Around} {E : Value → Shared → Prop} {s : Shared} {h₀ : Heap} {L D : Addr} {news : Led} {Q : Value → Shared → Prop}
theorem my_join5 {R : List Nat} {ys : List Value} {n : Nat} {t : Tok} (N : News h₀ L s.heap news) (hm : (D, W.listOf ys.toArray n) ∈ news) (hl : ys.length = 5) (hy : ∀ (i : Nat) (y : Value), ys[i]? = some y → ∃ t, y = .str (one1 (letN (edg R i))) t)
    (h : ∀ t' k, Q (.str (wordC R) t') { s with toks := k }) : wpAny (model prog w) A (call (.builtin "str.join") [.str (PySem.Str.ofString "") t, .ref D]) Q E s := by
  have e : Txt.join (PySem.Str.ofString "") ((castL [edg R 0, edg R 1, edg R 2, edg R 3, edg R 4]).map letJ) = wordC R := join_lets _
  match ys, hl with
  | [a, b, c, d, f], _ =>
    obtain ⟨t0, rfl⟩ := hy 0 a rfl
    obtain ⟨t1, rfl⟩ := hy 1 b rfl
    obtain ⟨t2, rfl⟩ := hy 2 c rfl
    obtain ⟨t3, rfl⟩ := hy 3 d rfl
    obtain ⟨t4, rfl⟩ := hy 4 f rfl
    refine join_listC (ys := (castL [edg R 0, edg R 1, edg R 2, edg R 3, edg R 4]).map letJ) ⟨_, (N _ hm).1, rfl, n, rfl⟩ (.cons _ _ (.cons _ _ (.cons _ _ (.cons _ _ (.cons _ _ .nil))))) (by decide +kernel) (Nat.le_of_ble_eq_true rfl) (fun t' k => ?_)
    rw [e]; exact h t' k
end
end Mine
namespace Mine
theorem nats_atS {vs : List Value} {r : List Nat} {j : Nat} (h : IntsAre vs (castL r)) (hj : j + 1 < r.length) : ∃ t, vs[(((j : Nat) : Int) + 1).toNat]? = some (.int ((r.getD (j + 1) 0 : Nat) : Int) t) := nats_at (j := j + 1) h hj
theorem rng5 {i : Nat} (h : i < 5) : (0 ≤ ((i : Nat) : Int) ∧ ((i : Nat) : Int) < 2 ^ 63) ∧ 0 ≤ ((i : Nat) : Int) + 1 ∧ ((i : Nat) : Int) + 1 < 2 ^ 63 := by omega
theorem sg_small {a b : Int} (ha : 0 ≤ a ∧ a ≤ 4) (hb : 0 ≤ b ∧ b ≤ 4) : (4 - 2 * a - (4 - 2 * b)).natAbs < 2 ^ 59 := by omega
end Mine
namespace Mine
theorem tab_grown {a b : Int} {c : PySem.Str} {o : Obj} {T news : Led} {h₀ h : Heap} {L P : Addr} (hT : TabIs a b c o T) (N : News h₀ L h news) (hm : (P, o) ∈ news) : GrownAt P h := by
  rcases hT with rfl | ⟨_, _, _, _, rfl, _⟩ <;> exact GrownAt.of N hm
end Mine
end
section
open PySem PySem.W PyProof.Rows PySem.Calls PySem.Spec
namespace Mine
noncomputable def hdA.tw10000634482857086707 : Unit := ()
noncomputable def hdA.tw10130108986215906234 : Unit := ()
noncomputable def hdA.tw1030808930350772107 : Unit := ()
noncomputable def hdA.tw10938776616075754346 : Unit := ()
noncomputable def hdA.tw10979860139751817429 : Unit := ()
noncomputable def hdA.tw11050901593168652837 : Unit := ()
noncomputable def hdA.tw11105974638144182356 : Unit := ()
noncomputable def hdA.tw11274074214424627147 : Unit := ()
noncomputable def hdA.tw1144515815320140985 : Unit := ()
noncomputable def hdA.tw11464458693701020239 : Unit := ()
noncomputable def hdA.tw115272694253628351 : Unit := ()
noncomputable def hdA.tw11646984095588809540 : Unit := ()
noncomputable def hdA.tw11938836425391979864 : Unit := ()
noncomputable def hdA.tw12430683834602972319 : Unit := ()
noncomputable def hdA.tw12996890747983028404 : Unit := ()
noncomputable def hdA.tw13071147287190897527 : Unit := ()
noncomputable def hdA.tw13299381129865049154 : Unit := ()
noncomputable def hdA.tw13579485422075827653 : Unit := ()
noncomputable def hdA.tw13651709482919192417 : Unit := ()
noncomputable def hdA.tw13725234867574353601 : Unit := ()
noncomputable def hdA.tw13953431496148382372 : Unit := ()
noncomputable def hdA.tw13969232571952774345 : Unit := ()
noncomputable def hdA.tw14039875386253370892 : Unit := ()
noncomputable def hdA.tw14200900361018187427 : Unit := ()
noncomputable def hdA.tw1426602249542793689 : Unit := ()
noncomputable def hdA.tw14462618619642903804 : Unit := ()
noncomputable def hdA.tw14952563999916129680 : Unit := ()
noncomputable def hdA.tw15101720785366850859 : Unit := ()
noncomputable def hdA.tw15128289762960579107 : Unit := ()
noncomputable def hdA.tw15155991956622985903 : Unit := ()
noncomputable def hdA.tw15367064748904871734 : Unit := ()
noncomputable def hdA.tw154634569234053773 : Unit := ()
noncomputable def hdA.tw16033601511114725245 : Unit := ()
noncomputable def hdA.tw16080905797610732150 : Unit := ()
noncomputable def hdA.tw16225938375792384813 : Unit := ()
noncomputable def hdA.tw16581945653851413749 : Unit := ()
noncomputable def hdA.tw16729045476222916569 : Unit := ()
noncomputable def hdA.tw16732105343771342909 : Unit := ()
noncomputable def hdA.tw16836461204921593789 : Unit := ()
noncomputable def hdA.tw16877466765953763165 : Unit := ()
noncomputable def hdA.tw16922028474382895735 : Unit := ()
noncomputable def hdA.tw17068176615394109454 : Unit := ()
noncomputable def hdA.tw17179915722302802176 : Unit := ()
noncomputable def hdA.tw17370472401661618575 : Unit := ()
noncomputable def hdA.tw17373997155613541612 : Unit := ()
noncomputable def hdA.tw18101740217255968534 : Unit := ()
noncomputable def hdA.tw18147404834082304882 : Unit := ()
noncomputable def hdA.tw18216408342887923392 : Unit := ()
noncomputable def hdA.tw188017086093849376 : Unit := ()
noncomputable def hdA.tw1888443504616523137 : Unit := ()
noncomputable def hdA.tw2015917209122112895 : Unit := ()
noncomputable def hdA.tw2139264431717035133 : Unit := ()
noncomputable def hdA.tw2210195135105721765 : Unit := ()
noncomputable def hdA.tw2238625535317000961 : Unit := ()
noncomputable def hdA.tw2281548949254889613 : Unit := ()
noncomputable def hdA.tw2305890617044930866 : Unit := ()
noncomputable def hdA.tw2417506204384291764 : Unit := ()
noncomputable def hdA.tw2643306866239932588 : Unit := ()
noncomputable def hdA.tw2698055277856233711 : Unit := ()
noncomputable def hdA.tw2843824894983687098 : Unit := ()
noncomputable def hdA.tw2849482463312613176 : Unit := ()
noncomputable def hdA.tw340164604693529714 : Unit := ()
noncomputable def hdA.tw3589581739579546963 : Unit := ()
noncomputable def hdA.tw3907533228478439465 : Unit := ()
noncomputable def hdA.tw4022948613025421097 : Unit := ()
noncomputable def hdA.tw4108706781650157793 : Unit := ()
noncomputable def hdA.tw4511208193539455028 : Unit := ()
noncomputable def hdA.tw4829035583160652236 : Unit := ()
noncomputable def hdA.tw505781958506320622 : Unit := ()
noncomputable def hdA.tw515191057677646804 : Unit := ()
noncomputable def hdA.tw5236484669842530064 : Unit := ()
noncomputable def hdA.tw5320568996640653090 : Unit := ()
noncomputable def hdA.tw5401690946412227916 : Unit := ()
noncomputable def hdA.tw5579104390340960170 : Unit := ()
noncomputable def hdA.tw6012595397934277334 : Unit := ()
noncomputable def hdA.tw6092776121935091912 : Unit := ()
noncomputable def hdA.tw6225982943041265620 : Unit := ()
noncomputable def hdA.tw631054656321630408 : Unit := ()
noncomputable def hdA.tw6452771899917875002 : Unit := ()
noncomputable def hdA.tw6797624960767230613 : Unit := ()
noncomputable def hdA.tw6911252469100885399 : Unit := ()
noncomputable def hdA.tw6963161795107275220 : Unit := ()
noncomputable def hdA.tw7082664768840715580 : Unit := ()
noncomputable def hdA.tw7310146241715235908 : Unit := ()
noncomputable def hdA.tw7602340991864500580 : Unit := ()
noncomputable def hdA.tw7658489382296110204 : Unit := ()
noncomputable def hdA.tw8166693187078539849 : Unit := ()
noncomputable def hdA.tw8394454675109159057 : Unit := ()
noncomputable def hdA.tw845235566038367468 : Unit := ()
noncomputable def hdA.tw8478373538531361499 : Unit := ()
noncomputable def hdA.tw851902309885117755 : Unit := ()
noncomputable def hdA.tw891126685889690206 : Unit := ()
noncomputable def hdA.tw9074959185536481480 : Unit := ()
noncomputable def hdA.tw927868403158789518 : Unit := ()
noncomputable def hdA.tw9314470166132427319 : Unit := ()
noncomputable def hdA.tw9339198728129631529 : Unit := ()
noncomputable def hdA.tw9415991886651386308 : Unit := ()
noncomputable def hdA.tw9450282582598013273 : Unit := ()
noncomputable def hdA.tw954425596310927704 : Unit := ()
noncomputable def hdA.tw9617049156554660898 : Unit := ()
noncomputable def hdA.tw9688673055497847327 : Unit := ()
noncomputable def hdA.tw9699155762340587156 : Unit := ()
noncomputable def hdA.tw9706250593926089989 : Unit := ()
noncomputable def hdA.tw971106262040386498 : Unit := ()
noncomputable def hdA.tw9752062236793532883 : Unit := ()
noncomputable def hdA.tw9843896370901672699 : Unit := ()

/-- a row of my own over the same text: _div2n1n(5, 3, 4) ends. Its proof lays the heap (hdA.heap_..) that all contracts speak of -/
abbrev r0 : OpenRow := { PySem.Challenge.rw_pg0168_02.row with name := PySem.Str.ofString "_div2n1n", args := [.int, .int, .int], returns := .tuple [.int, .int], pre := .and (.eq (.arg 0) (.lit (.int 5))) (.and (.eq (.arg 1) (.lit (.int 3))) (.eq (.arg 2) (.lit (.int 4)))), post := .lit (.bool true), keeps := [] }
set_option Elab.async true in
set_option maxRecDepth 100000 in
set_option maxHeartbeats 8000000 in
theorem hdA : r0.Holds := by
  w_on
  o_law
  k_head
  (case hw => w_witness2)
  k_go0
  repeat' ((fail_if_success (with_reducible show ite _ _ _)); first | (k_unfold; (try dsimp only)) | walk1 | (dsimp only; walk1) | (leave1; walk_say "STEP leave1"; try dsimp only))
  subst_vars
  refine ite_pos (by decide +kernel) ?_
  k_steps
  all_goals (try k_data)
end Mine
end
theorem Mine.topOff : True := by
  w_top off
  exact True.intro
section
open PySem PySem.W PyProof.Rows PySem.Calls PySem.Spec
set_option compiler.extract_closed false
namespace Mine
local macro_rules | `(tactic| k_room) => `(tactic| ktr_room)
local macro_rules | `(tactic| k_units) => `(tactic| ktr_units)
local macro_rules | `(tactic| k_lt $h:ident) => `(tactic| (replace $h := allLt_of $h; (try simp only [AllLt, and_true] at $h:ident); (repeat (have h9 := And.left $h; replace $h := And.right $h))))
local macro_rules | `(tactic| k_all) => `(tactic| ((fail_if_success refine List.forall_mem_cons.mpr ?_); (fail_if_success exact List.forall_mem_nil _); first | with_reducible assumption | repeat' ((with_reducible rename AllLt _ _ => z1); first | exact all_ne z1 (by omega) | clear z1)))
local macro_rules | `(tactic| k_mem) => `(tactic| assumption)
local macro_rules | `(tactic| walk_at "MINE mcons") => `(tactic| ((refine MRest.cons ?_); intro t9' u9' its9' C9' oC9' D9' m9' h9' tk9' E9' tg9' i09' hC9' hxa9' hxb9' F9' N9' off9' offI9' offC9' neCD9'; (try dsimp only at hxa9' hxb9')))
local macro_rules | `(tactic| walk_at "MINE ltI") => `(tactic| (intro l1; k_lt l1))
set_option compiler.extract_closed false
noncomputable abbrev P02 : PySem.Program := Challenge.rw_pg0168_02.row.prog
noncomputable abbrev K02 : World → Frag := fun w => hdA.heap_1_1 w.params
noncomputable abbrev H02 : Heap → Prop := fun h => CodeHd h 41 37 ∧ CodeHd h 48 44
noncomputable abbrev nm30 : PySem.Str := PySem.Str.ofString "_int2digits.<locals>.inner"
noncomputable abbrev Tab30 : Obj → Led → Prop := TabIs 38 4 nm30
noncomputable abbrev nm37 : PySem.Str := PySem.Str.ofString "_digits2int.<locals>.inner"
noncomputable abbrev Tab37 : Obj → Led → Prop := TabIs 53 4 nm37
set_option maxRecDepth 100000 in
set_option maxHeartbeats 4000000 in
theorem i2d {w : World} {news T0 : Led} (x n k : Nat) (hn : 0 < n) (hk : ((Builtin.Int.intBits x : Int) + n - 1).fdiv n = (k : Int)) (hk9 : k < 200) (hx : x < 2 ^ 80) (hn9 : n < 100) (t1 t2 : Tok) (h30 : ∀ p ∈ news, p.1 ≠ 37) (o30 : Obj) (hT : Tab30 o30 T0) (hs0 : ∀ p ∈ T0, p ∈ news) :
   CS K02 P02 w H02 42 300 3000 ((37, o30) :: news) [.int x t1, .int n t2]
    fun v nw => ∃ D vs o30' ext, v = .ref D ∧ nw = (D, W.listOf vs.toArray 0) :: (37, o30') :: (ext ++ news) ∧ Tab30 o30' (ext ++ T0) ∧ IntsAre vs (digs (2 ^ n) k x) ∧ (∀ q ∈ news, q.1 < D) ∧ ∀ q ∈ ext, (∀ p ∈ news, p.1 < q.1) ∧ 37 < q.1 := by
  have hlaw : (fun (_ : OpenLaw) (_ : Params → Frag) => True) Challenge.rw_pg0168_02 hdA.heap_1_1 := by k_fill; exact True.intro
  clear hlaw
  intro p loose mean mg mb dp un gd cn cs L a ccd cl outer A₀ base h₀ m s Q E B F X N T hH hcs hdp hun hret
  obtain ⟨ck, cnm, cg, cc, cm⟩ := cs
  obtain rfl : ck = .function := hcs
  obtain ⟨hH1, hH2⟩ := hH
  replace X : (hdA.heap_1_1 w.params).In h₀ := X
  refine wpAny_call ?_
  k_dflt k_enter
  (repeat' ((fail_if_success (with_reducible show wpAny _ _ (makeFunction _ _ _ _ _ _ _ _ _ _ _) _ _ _)); first | (k_unfold; (try dsimp only)) | (k_end; wrow_close) | ((with_reducible show wpAny _ _ (eval (PySem.Expr.Name _ _) (envOfC _ _ _ _ _)) _ _ _); k_dflt (refine' nameX_L ?F ?v ?_ ?a ?b; (case F => k_asm); (case a => rfl); (case b => rfl); (case v => rfl); k_whole)) | walk1 | (dsimp only; walk1) | (leave1; walk_say "STEP leave1"; try dsimp only)))
  rename_i g1 L1 hA tkA FG1 B1 X1 T1 q1 l1 oA oB oC dA dB dC lD hB r1 r2 r3 r4 l2 D hC i1 n1 s1 e1 e2 e3 p1 p2 p3 p4 p5 l3 hD oD F2 NN d2
  k_dflt (refine' nestDef_K ?d0 ?k0 ?a0 ?_; (case d0 => exact rfl); (case k0 => exact rfl); (case a0 => exact rfl))
  k_dflt (refine' nestW (T0 := T0) (nm := nm30) ?F ?N ?T ?C ?cd ?hT ?hs ?hP ?hq ?cl ?_; (case F => k_asm); (case N => exact pull5 NN); (case T => k_asm); (case cd => exact rfl); (case C => kn_code); (case hT => exact hT); (case hs => exact fun q hq => .tail _ (.tail _ (.tail _ (.tail _ (.tail _ (hs0 q hq)))))); (case hP => exact FMC.all ⟨Nat.ne_of_gt (by omega), FMC.all ⟨Nat.ne_of_gt (by omega), FMC.all ⟨Nat.ne_of_gt (by omega), FMC.all ⟨Nat.ne_of_gt (by omega), FMC.all ⟨Nat.ne_of_gt (by omega), h30⟩⟩⟩⟩⟩); (case hq => rfl); (case cl => exact rfl))
  intro f c oc vs t ctv doc o9 ext9 h9 tk9 T9 hm9 hd9 hv9 hf9 hx9 F9 N9
  replace N9 := push5 N9
  have hmN : (c, oc) ∈ ext9 ++ news := (List.mem_append.mp hm9).elim (List.mem_append_left _) (fun h => List.mem_append_right _ (hs0 _ h))
  have hX9 : ∀ q ∈ ext9, (∀ p ∈ news, p.1 < q.1) ∧ @LT.lt Nat _ 37 q.1 := fun q hq => ⟨fun p hp => hx9 q hq p (.tail _ (.tail _ (.tail _ (.tail _ (.tail _ (.tail _ hp)))))), hx9 q hq _ (.head _)⟩
  have hEi : ∀ q ∈ ext9 ++ news, q.1 ≠ L1 + 1 + 1 + 1 := fun q hq => (List.mem_append.mp hq).elim (fun h => Nat.ne_of_gt (hx9 q h _ (.tail _ (.tail _ (.tail _ (.head _)))))) (fun h => Nat.ne_of_lt (Nat.lt_trans (allLt_mem l1 q h) (by omega)))
  have hED : ∀ q ∈ ext9 ++ news, q.1 ≠ D := fun q hq => (List.mem_append.mp hq).elim (fun h => Nat.ne_of_gt (hx9 q h _ (.tail _ (.head _)))) (fun h => Nat.ne_of_lt (allLt_mem l3 q h))
  have hfD : @LT.lt Nat _ D f := hf9 _ (.tail _ (List.mem_append_right _ (.head _)))
  clear hx9 hf9 hm9
  (repeat' ((fail_if_success (with_reducible show wpAny _ _ (call (Value.ref _) [(Value.int _ _), (Value.int _ _), (Value.int _ _)]) _ _ _)); first | (k_unfold; (try dsimp only)) | (k_end; wrow_close) | ((with_reducible show wpAny _ _ (eval (PySem.Expr.Name _ _) (envOfC _ _ _ _ _)) _ _ _); k_dflt (refine' nameX_L ?F ?v ?_ ?a ?b; (case F => k_asm); (case a => rfl); (case b => rfl); (case v => rfl); k_whole)) | walk1 | (dsimp only; walk1) | (leave1; walk_say "STEP leave1"; try dsimp only)))
  · have hk0 : 0 < k := bits_pos hn (by omega) hk
    (with_reducible rename (List.length _ = _) => e1)
    (with_reducible rename (0 ≤ _ → _) => e3)
    have hlen := flat_len e1 e3 hk
    refine' InnerOk.use (K := K02) (lo := 0) (x := x) (k := k) (B := 2 ^ n) ?specx rfl rfl ?eHx hx (by k_asm) ?hkx ?hlx ?Bx ?Fx ?Xx ?Nx ?Tx rfl ?hdx ?hux ?_
    case Bx => k_asm
    case Fx => k_asm
    case Xx => k_asm
    case Nx => exact rot1 (by k_asm)
    case Tx => k_asm
    case hdx => ktr_room
    case hux => ktr_units
    case eHx => omega
    case hkx => omega
    case hlx => omega
    case specx =>
      repeat (with_reducible rename News _ _ _ _ => zN; clear zN)
      repeat (with_reducible rename Fr _ _ _ _ => zN; clear zN)
      clear hret
      refine innerOk_all (fun k hk0 IH => ?_) _ hk0
      intro x lo vs ds t1 t2 t3 dp un gd cn cs L a ccd cl outer A₀ base h₀ m s Q E hx hv hlk hl B F X N T hcs hdp hun hret
      obtain ⟨ck, cnm, cg, cc, cm⟩ := cs
      obtain rfl : ck = .function := hcs
      replace X : (hdA.heap_1_1 w.params).In h₀ := X
      have h300 := hf_300 hlk hl
      refine wpAny_call ?_
      k_dflt kn_enter
      (with_reducible rename Fr _ _ _ _ => lF0)
      refine frGen3 lF0 (a := PySem.Str.ofString "x") (b := PySem.Str.ofString "L") (c := PySem.Str.ofString "R") (by with_unfolding_all rfl) (by with_unfolding_all rfl) (by with_unfolding_all rfl) ?_
      clear lF0
      intro m0 lF0
      (repeat' ((fail_if_success (with_reducible show wpAny _ _ (call (Value.ref _) [(Value.int _ _), (Value.int _ _), (Value.int _ _)]) _ _ _)); first | (k_unfold; (try dsimp only)) | (k_end; wrow_close) | (with_reducible refine r_upper ?_) | (with_reducible refine r_midh ?_) | (with_reducible refine r_xor ?_) | ((with_reducible show wpAny _ _ (binaryOp .Mult (Value.int _ _) (Value.int _ _)) _ _ _); with_reducible refine' r_shift ?kk ?_; (case kk => omega)) | ((with_reducible show wpAny _ _ (binaryOp .LShift (Value.int _ _) (Value.int _ _)) _ _ _); with_reducible refine' r_shl ?k1 ?k2 ?_; (case k1 => first | with_reducible assumption | exact div_le_80 (by with_reducible assumption)); (case k2 => first | omega | exact e_ok (by omega) (by omega))) | ((with_reducible show wpAny _ _ (storeName _ _ _) _ _ _); k_dflt (refine' storeX_L ?F ?N ?_ ?a ?b; (case F => k_asm); (case N => k_asm); (case a => rfl); (case b => rfl); k_whole; intro _ _ _; (try k_sweep))) | walk1 | (dsimp only; walk1) | (leave1; walk_say "STEP leave1"; try dsimp only)))
      · have hk1 : k = 1 := by omega
        subst hk1
        refine hret _ _ _ ?_ (by k_asm) (by k_asm)
        rw [digs, ← putAt_one ds lo x (by omega)]
        k_asm
      · (with_reducible rename (¬ (_ : Int) = _) => z9)
        have hk2 := two_of hk0 z9
        clear z9
        obtain ⟨hp0, hp1, hp2, hp3⟩ := hf_pos hk2
        refine' (IH (hf k) hp0 hp1).use (x := x % 2 ^ (hf k * n)) (lo := lo) rfl rfl rfl (mod_le_80 hx) hv ?hka hl ?Ba ?Fa ?Xa ?Na ?Ta rfl ?hda ?hua ?_
        case hka => exact Nat.le_trans (Nat.add_le_add_left (hf_le k) lo) hlk
        case Ba => k_asm
        case Fa => k_asm
        case Xa => k_asm
        case Na => k_asm
        case Ta => k_asm
        case hda => first | exact room_h hdp hp1 | ktr_room
        case hua => first | exact unit_h hun hp1 | ktr_units
        intro vs1 h1 tk1 hv1 F1 N1
        (repeat' ((fail_if_success (with_reducible show wpAny _ _ (call (Value.ref _) [(Value.int _ _), (Value.int _ _), (Value.int _ _)]) _ _ _)); first | (k_unfold; (try dsimp only)) | (k_end; wrow_close) | walk1 | (dsimp only; walk1) | (leave1; walk_say "STEP leave1"; try dsimp only)))
        have hl1 := putAt_length ds lo (digs (2 ^ n) (hf k) (x % 2 ^ (hf k * n))) (by rw [digs_length]; exact Nat.le_trans (Nat.add_le_add_left (hf_le k) lo) hlk)
        refine' (IH (k - hf k) hp2 hp3).use (x := x / 2 ^ (hf k * n)) (lo := lo + hf k) rfl rfl ?eHb (div_le_80 hx) hv1 ?hkb ?hlb ?Bb ?Fb ?Xb ?Nb ?Tb rfl ?hdb ?hub ?_
        case eHb => exact congrArg Int.ofNat hf_split
        case hkb => rw [hl1, ← hf_split]; exact hlk
        case hlb => rw [hl1]; exact hl
        case Bb => k_asm
        case Fb => k_asm
        case Xb => k_asm
        case Nb => k_asm
        case Tb => k_asm
        case hdb => first | exact room_h hdp hp3 | ktr_room
        case hub => first | exact unit_h hun hp3 | ktr_units
        intro vs2 h2 tk2 hv2 F2 N2
        (repeat' ((fail_if_success (with_reducible show wpAny _ _ (call (Value.ref _) [(Value.int _ _), (Value.int _ _), (Value.int _ _)]) _ _ _)); first | (k_unfold; (try dsimp only)) | (k_end; wrow_close) | walk1 | (dsimp only; walk1) | (leave1; walk_say "STEP leave1"; try dsimp only)))
        refine hret _ _ _ ?_ (by k_asm) (by k_asm)
        rw [put_doneh ds lo n k x hk2 hlk] at hv2
        exact hv2
    intro vs1 h1 tk1 hv1 F1 N1
    (repeat' ((fail_if_success (with_reducible show wpAny _ _ (call (Value.ref _) [(Value.int _ _), (Value.int _ _), (Value.int _ _)]) _ _ _)); first | (k_unfold; (try dsimp only)) | (k_end; wrow_close) | walk1 | (dsimp only; walk1) | (leave1; walk_say "STEP leave1"; try dsimp only)))
    rw [putAt_whole _ _ (by rw [digs_length]; omega)] at hv1
    exact hret _ _ _ _ (by k_asm) (newsSub (by k_asm) (by (repeat' first | exact List.forall_mem_nil _ | refine FMC.all ⟨by k_mem, ?_⟩ | (intro p9 hp9; (repeat' first | assumption | refine List.Mem.tail _ ?_))))) ⟨_, _, o9, ext9, rfl, rfl, T9, hv1, by (repeat' ((with_reducible rename AllLt _ _ => z1); first | exact all_lt z1 (by omega) | clear z1)), hX9⟩
  · have hk0 : k = 0 := bits_zero hn (by omega) hk
    subst hk0
    (with_reducible rename (List.length _ = _) => e1)
    (with_reducible rename (0 ≤ _ → _) => e3)
    exact hret _ _ _ _ (by k_asm) (newsSub (by k_asm) (by (repeat' first | exact List.forall_mem_nil _ | refine FMC.all ⟨by k_mem, ?_⟩ | (intro p9 hp9; (repeat' first | assumption | refine List.Mem.tail _ ?_))))) ⟨_, _, o9, ext9, rfl, rfl, T9, flat_nil (by k_asm) (flat_len e1 e3 hk), by (repeat' ((with_reducible rename AllLt _ _ => z1); first | exact all_lt z1 (by omega) | clear z1)), hX9⟩
theorem i2dW {w : World} {news T0 : Led} (x n k : Nat) (hn : 0 < n) (hk : ((Builtin.Int.intBits x : Int) + n - 1).fdiv n = (k : Int)) (hk9 : k < 200) (hx : x < 2 ^ 80) (hn9 : n < 100) (t1 t2 : Tok) (h30 : ∀ p ∈ news, p.1 ≠ 37) (o30 : Obj) (hT : Tab30 o30 T0) (hs0 : ∀ p ∈ T0, p ∈ news) :
   CW K02 P02 w H02 42 300 3000 ((37, o30) :: news) [.int x t1, .int n t2] (fun G => ∀ D vs o30' ext, (Tab30 o30' (ext ++ T0)) → (IntsAre vs (digs (2 ^ n) k x)) → ((∀ q ∈ news, q.1 < D)) → (∀ q ∈ ext, (∀ p ∈ news, p.1 < q.1) ∧ 37 < q.1) → G (.ref D) ((D, W.listOf vs.toArray 0) :: (37, o30') :: (ext ++ news))) :=
  CS.toW (@i2d w news T0 x n k hn hk hk9 hx hn9 t1 t2 h30 o30 hT hs0) (fun v nw G hR hG => by
    obtain ⟨D, vs, o30', ext, rfl, rfl, r09, r19, r29, r39⟩ := hR
    exact hG D vs o30' ext r09 r19 r29 r39)
set_option maxRecDepth 100000 in
set_option maxHeartbeats 4000000 in
theorem d2i {w : World} {news T0 : Led} (ds : List Nat) (n : Nat) (hn9 : n < 100) (hds : ∀ d ∈ ds, d < 2 ^ n) (h80 : n * ds.length ≤ 80) (hl9 : ds.length < 200) (D : Addr) (vs : List Value) (c9 : Nat) (hD : (D, W.listOf vs.toArray c9) ∈ news) (hi : IntsAre vs (castL ds)) (t2 : Tok) (h37 : ∀ p ∈ news, p.1 ≠ 44) (o37 : Obj) (hT : Tab37 o37 T0) (hs0 : ∀ p ∈ T0, p ∈ news) :
   CS K02 P02 w H02 49 300 3000 ((44, o37) :: news) [.ref D, .int n t2]
    fun v nw => ∃ t o37' ext, v = .int ((valN (2 ^ n) ds : Nat) : Int) t ∧ nw = (44, o37') :: (ext ++ news) ∧ Tab37 o37' (ext ++ T0) ∧ ∀ q ∈ ext, (∀ p ∈ news, p.1 < q.1) ∧ 44 < q.1 := by
  have hlaw : (fun (_ : OpenLaw) (_ : Params → Frag) => True) Challenge.rw_pg0168_02 hdA.heap_1_1 := by k_fill; exact True.intro
  clear hlaw
  intro p loose mean mg mb dp un gd cn cs L a ccd cl outer A₀ base h₀ m s Q E B F X N T hH hcs hdp hun hret
  obtain ⟨ck, cnm, cg, cc, cm⟩ := cs
  obtain rfl : ck = .function := hcs
  obtain ⟨hH1, hH2⟩ := hH
  replace X : (hdA.heap_1_1 w.params).In h₀ := X
  have hlv : vs.length = ds.length := by have := hi.length; simpa [castL] using this
  refine wpAny_call ?_
  k_dflt k_enter
  (repeat' ((fail_if_success (with_reducible show wpAny _ _ (makeFunction _ _ _ _ _ _ _ _ _ _ _) _ _ _)); first | (k_unfold; (try dsimp only)) | (k_end; wrow_close) | walk1 | (dsimp only; walk1) | (leave1; walk_say "STEP leave1"; try dsimp only)))
  rename_i g1 L1 hA tkA FG1 F1 B1 X1 T1 q1 l1 oA oB oC dA dB dC NN
  k_dflt (refine' nestDef_K ?d0 ?k0 ?a0 ?_; (case d0 => exact rfl); (case k0 => exact rfl); (case a0 => exact rfl))
  k_dflt (refine' nestW (T0 := T0) (nm := nm37) ?F ?N ?T ?C ?cd ?hT ?hs ?hP ?hq ?cl ?_; (case F => k_asm); (case N => exact pull3 NN); (case T => k_asm); (case cd => exact rfl); (case C => kn_code); (case hT => exact hT); (case hs => exact fun q hq => .tail _ (.tail _ (.tail _ (hs0 q hq)))); (case hP => exact FMC.all ⟨Nat.ne_of_gt (by omega), FMC.all ⟨Nat.ne_of_gt (by omega), FMC.all ⟨Nat.ne_of_gt (by omega), h37⟩⟩⟩); (case hq => rfl); (case cl => exact rfl))
  intro f c oc vsT t ctv doc o9 ext9 h9 tk9 T9 hm9 hd9 hv9 hf9 hx9 F9 N9
  replace N9 := push3 N9
  have hmN : (c, oc) ∈ ext9 ++ news := (List.mem_append.mp hm9).elim (List.mem_append_left _) (fun h => List.mem_append_right _ (hs0 _ h))
  have hDN : (D, W.listOf vs.toArray c9) ∈ ext9 ++ news := List.mem_append_right _ hD
  have hX9 : ∀ q ∈ ext9, (∀ p ∈ news, p.1 < q.1) ∧ @LT.lt Nat _ 44 q.1 := fun q hq => ⟨fun p hp => hx9 q hq p (.tail _ (.tail _ (.tail _ (.tail _ hp)))), hx9 q hq _ (.head _)⟩
  have hEi : ∀ q ∈ ext9 ++ news, q.1 ≠ L1 + 1 + 1 + 1 := fun q hq => (List.mem_append.mp hq).elim (fun h => Nat.ne_of_gt (hx9 q h _ (.tail _ (.head _)))) (fun h => Nat.ne_of_lt (Nat.lt_trans (allLt_mem l1 q h) (by omega)))
  have hfL : @LT.lt Nat _ (L1 + 1 + 1 + 1) f := hf9 _ (.tail _ (List.mem_append_right _ (.head _)))
  clear hx9 hf9 hm9
  (repeat' ((fail_if_success (with_reducible show wpAny _ _ (call (Value.ref _) [(Value.int _ _), (Value.int _ _)]) _ _ _)); first | (k_unfold; (try dsimp only)) | (k_end; wrow_close) | ((with_reducible show wpAny _ _ (truthy (Value.ref _)) _ _ _); (refine' kgr_truthy (lo := W.listOf (List.toArray _) _) ?gN ?gm ?gc ?gd ?gf ?_); (case gN => k_asm); (case gm => k_mem); (case gc => rfl); (case gd => rfl); (case gf => omega)) | ((with_reducible show wpAny _ _ (call (Value.builtin "len") [(Value.ref _)]) _ _ _); (refine' my_len ?gN ?gm ?gl ?gf ?_); (case gN => k_asm); (case gm => k_mem); (case gl => with_reducible assumption); (case gf => omega); intro _) | walk1 | (dsimp only; walk1) | (leave1; walk_say "STEP leave1"; try dsimp only)))
  · have hds0 : ds = [] := by
      (with_reducible rename (List.isEmpty _ = true) => z9)
      rw [List.isEmpty_iff] at z9
      subst z9
      exact List.eq_nil_of_length_eq_zero hlv.symm
    subst hds0
    exact hret _ _ _ _ (by k_asm) (newsSub (by k_asm) (by (repeat' first | exact List.forall_mem_nil _ | refine FMC.all ⟨by k_mem, ?_⟩ | (intro p9 hp9; (repeat' first | assumption | refine List.Mem.tail _ ?_))))) ⟨_, o9, ext9, rfl, rfl, T9, hX9⟩
  · have hk0 : 0 < ds.length := by
      (with_reducible rename (List.isEmpty _ = false) => z9)
      cases vs with
      | nil => cases z9
      | cons _ _ => rw [← hlv]; exact Nat.succ_pos _
    refine' D2Ok.use (K := K02) (lo := 0) (k := ds.length) (B := 2 ^ n) (ds := ds) ?specx rfl ?eHx ?hkx ?Bx ?Fx ?Xx ?Nx ?Tx rfl ?hdx ?hux ?_
    case Bx => k_asm
    case Fx => k_asm
    case Xx => k_asm
    case Nx => k_asm
    case Tx => k_asm
    case hdx => ktr_room
    case hux => ktr_units
    case eHx => omega
    case hkx => omega
    case specx =>
      repeat (with_reducible rename News _ _ _ _ => zN; clear zN)
      repeat (with_reducible rename Fr _ _ _ _ => zN; clear zN)
      clear hret
      refine D2Ok.all (fun k hk0 IH => ?_) _ hk0
      intro lo t2 t3 dp un gd cn cs L a ccd cl outer A₀ base h₀ m s Q E hlk B F X N T hcs hdp hun hret
      obtain ⟨ck, cnm, cg, cc, cm⟩ := cs
      obtain rfl : ck = .function := hcs
      replace X : (hdA.heap_1_1 w.params).In h₀ := X
      have h300 := hf_300 hlk hl9
      refine wpAny_call ?_
      k_dflt kn_enter
      (with_reducible rename Fr _ _ _ _ => lF0)
      refine frGen2 lF0 (a := PySem.Str.ofString "L") (b := PySem.Str.ofString "R") (by with_unfolding_all rfl) (by with_unfolding_all rfl) ?_
      clear lF0
      intro m0 lF0
      (repeat' ((fail_if_success (with_reducible show wpAny _ _ (call (Value.ref _) [(Value.int _ _), (Value.int _ _)]) _ _ _)); first | (k_unfold; (try dsimp only)) | (k_end; wrow_close) | (with_reducible refine r_midh ?_) | ((with_reducible show wpAny _ _ (binaryOp .Mult (Value.int _ _) (Value.int _ _)) _ _ _); with_reducible refine' r_shift ?kk ?_; (case kk => omega)) | ((with_reducible show wpAny _ _ (storeName _ _ _) _ _ _); k_dflt (refine' storeX_L ?F ?N ?_ ?a ?b; (case F => k_asm); (case N => k_asm); (case a => rfl); (case b => rfl); k_whole; intro _ _ _; (try k_sweep))) | walk1 | (dsimp only; walk1) | (leave1; walk_say "STEP leave1"; try dsimp only)))
      · have hk1 : k = 1 := by omega
        subst hk1
        rw [d2_one (B := 2 ^ n) hlk]
        exact hret _ _ _ (by k_asm) (by k_asm)
      · (with_reducible rename (¬ (_ : Int) = _) => z9)
        have hk2 := two_of hk0 z9
        clear z9
        obtain ⟨hp0, hp1, hp2, hp3⟩ := hf_pos hk2
        refine' (IH (k - hf k) hp2 hp3).use (lo := lo + hf k) rfl ?eHa ?hka ?Ba ?Fa ?Xa ?Na ?Ta rfl ?hda ?hua ?_
        case Ba => k_asm
        case Fa => k_asm
        case Xa => k_asm
        case Na => k_asm
        case Ta => k_asm
        case hda => first | exact room_h hdp hp3 | ktr_room
        case hua => first | exact unit_h hun hp3 | ktr_units
        case eHa => exact congrArg Int.ofNat hf_split
        case hka => rw [← hf_split]; exact hlk
        intro tv1 h1 tk1 F1 N1
        have hv1 := d2_lt (lo := lo + hf k) (k := k - hf k) hds h80
        (repeat' ((fail_if_success (with_reducible show wpAny _ _ (call (Value.ref _) [(Value.int _ _), (Value.int _ _)]) _ _ _)); first | (k_unfold; (try dsimp only)) | (k_end; wrow_close) | ((with_reducible show wpAny _ _ (binaryOp .LShift (Value.int _ _) (Value.int _ _)) _ _ _); with_reducible refine' r_shl ?k1 ?k2 ?_; (case k1 => first | with_reducible assumption | exact div_le_80 (by with_reducible assumption)); (case k2 => first | omega | exact e_ok (by omega) (by omega))) | walk1 | (dsimp only; walk1) | (leave1; walk_say "STEP leave1"; try dsimp only)))
        refine' (IH (hf k) hp0 hp1).use (lo := lo) rfl rfl ?hkb ?Bb ?Fb ?Xb ?Nb ?Tb rfl ?hdb ?hub ?_
        case Bb => k_asm
        case Fb => k_asm
        case Xb => k_asm
        case Nb => k_asm
        case Tb => k_asm
        case hdb => first | exact room_h hdp hp1 | ktr_room
        case hub => first | exact unit_h hun hp1 | ktr_units
        case hkb => exact Nat.le_trans (Nat.add_le_add_left (hf_le k) lo) hlk
        intro tv2 h2 tk2 F2 N2
        (repeat' ((fail_if_success (with_reducible show wpAny _ _ (call (Value.ref _) [(Value.int _ _), (Value.int _ _)]) _ _ _)); first | (k_unfold; (try dsimp only)) | (k_end; wrow_close) | walk1 | (dsimp only; walk1) | (leave1; walk_say "STEP leave1"; try dsimp only)))
        rw [d2_twoh (n := n) hk2 hlk]
        exact hret _ _ _ (by k_asm) (by k_asm)
    intro tv9 h1 tk1 F1 N1
    rw [d2_all]
    (repeat' ((fail_if_success (with_reducible show wpAny _ _ (call (Value.ref _) [(Value.int _ _), (Value.int _ _)]) _ _ _)); first | (k_unfold; (try dsimp only)) | (k_end; wrow_close) | walk1 | (dsimp only; walk1) | (leave1; walk_say "STEP leave1"; try dsimp only)))
    exact hret _ _ _ _ (by k_asm) (newsSub (by k_asm) (by (repeat' first | exact List.forall_mem_nil _ | refine FMC.all ⟨by k_mem, ?_⟩ | (intro p9 hp9; (repeat' first | assumption | refine List.Mem.tail _ ?_))))) ⟨_, o9, ext9, rfl, rfl, T9, hX9⟩
theorem d2iW {w : World} {news T0 : Led} (ds : List Nat) (n : Nat) (hn9 : n < 100) (hds : ∀ d ∈ ds, d < 2 ^ n) (h80 : n * ds.length ≤ 80) (hl9 : ds.length < 200) (D : Addr) (vs : List Value) (c9 : Nat) (hD : (D, W.listOf vs.toArray c9) ∈ news) (hi : IntsAre vs (castL ds)) (t2 : Tok) (h37 : ∀ p ∈ news, p.1 ≠ 44) (o37 : Obj) (hT : Tab37 o37 T0) (hs0 : ∀ p ∈ T0, p ∈ news) :
   CW K02 P02 w H02 49 300 3000 ((44, o37) :: news) [.ref D, .int n t2] (fun G => ∀ t o37' ext, (Tab37 o37' (ext ++ T0)) → (∀ q ∈ ext, (∀ p ∈ news, p.1 < q.1) ∧ 44 < q.1) → G (.int ((valN (2 ^ n) ds : Nat) : Int) t) ((44, o37') :: (ext ++ news))) :=
  CS.toW (@d2i w news T0 ds n hn9 hds h80 hl9 D vs c9 hD hi t2 h37 o37 hT hs0) (fun v nw G hR hG => by
    obtain ⟨t, o37', ext, rfl, rfl, r09, r19⟩ := hR
    exact hG t o37' ext r09 r19)
set_option maxRecDepth 100000 in
set_option maxHeartbeats 4000000 in
theorem div21 {w : World} {news : Led} (x b n : Nat) (hx : x < 2 ^ 100) (hb : 0 < b) (hb9 : b < 1073741824) (X : Int) (hX : X = (x : Int)) (t1 t2 t3 : Tok) :
   CS K02 P02 w H02 28 30 300 news [.int X t1, .int b t2, .int n t3]
    fun v nw => ∃ D u1 u2, v = .ref D ∧ nw = (D, tup [.int ((x / b : Nat) : Int) u1, .int ((x % b : Nat) : Int) u2]) :: news ∧ ∀ q ∈ news, q.1 < D := by
  subst hX
  have hlaw : (fun (_ : OpenLaw) (_ : Params → Frag) => True) Challenge.rw_pg0168_02 hdA.heap_1_1 := by k_fill; exact True.intro
  clear hlaw
  intro p loose mean mg mb dp un gd cn cs L a ccd cl outer A₀ base h₀ m s Q E B F X N T hH hcs hdp hun hret
  obtain ⟨ck, cnm, cg, cc, cm⟩ := cs
  obtain rfl : ck = .function := hcs
  obtain ⟨hH1, hH2⟩ := hH
  replace X : (hdA.heap_1_1 w.params).In h₀ := X
  have hbits : Builtin.Int.intBits (x : Int) ≤ 100 := intBits_le_iff.mpr (by omega)
  (repeat' (first | (k_unfold; (try dsimp only)) | (k_end; wrow_close) | ((with_reducible show ite _ _ _); refine ite_pos (by first | omega | (simp only [beq_iff_eq, bne_iff_ne, decide_eq_true_eq, Int.not_lt, Int.not_le]; omega)) ?_) | ((with_reducible show wpAny _ _ (call (Value.builtin "divmod") [(Value.int _ _), (Value.int _ _)]) _ _ _); (with_reducible refine' my_divmod ?gF ?gN ?gb ?g9 ?_); (case gF => k_asm); (case gN => k_asm); (case gb => omega); (case g9 => omega); intro _ _ _ _ _ _ _; walk_at "MINE ltI") | ((with_reducible show wpAny _ _ (eval (PySem.Expr.Name _ _) (envOf _ _ _ _ _)) _ _ _); k_dflt (refine' nameX_L ?F ?v ?_ ?a ?b; (case F => k_asm); (case a => rfl); (case b => rfl); (case v => rfl); k_whole)) | walk1 | (dsimp only; walk1) | (leave1; walk_say "STEP leave1"; try dsimp only)))
  exact hret _ _ _ _ (by k_asm) (by k_asm) ⟨_, _, _, rfl, rfl, by (repeat' ((with_reducible rename AllLt _ _ => z1); first | exact all_lt z1 (by omega) | clear z1))⟩
theorem div21W {w : World} {news : Led} (x b n : Nat) (hx : x < 2 ^ 100) (hb : 0 < b) (hb9 : b < 1073741824) (X : Int) (hX : X = (x : Int)) (t1 t2 t3 : Tok) :
   CW K02 P02 w H02 28 30 300 news [.int X t1, .int b t2, .int n t3] (fun G => ∀ D u1 u2, (∀ q ∈ news, q.1 < D) → G (.ref D) ((D, tup [.int ((x / b : Nat) : Int) u1, .int ((x % b : Nat) : Int) u2]) :: news)) :=
  CS.toW (@div21 w news x b n hx hb hb9 X hX t1 t2 t3) (fun v nw G hR hG => by
    obtain ⟨D, u1, u2, rfl, rfl, r09⟩ := hR
    exact hG D u1 u2 r09)
set_option compiler.extract_closed false
set_option maxRecDepth 100000 in
set_option maxHeartbeats 4000000 in
theorem dmp {w : World} {news T0 : Led} (av bv n k : Nat) (ha : av < 2 ^ 60) (hb : 0 < bv) (hb9 : bv < 1073741824) (hn : Builtin.Int.intBits (bv : Int) = n) (hk : ((Builtin.Int.intBits av : Int) + n - 1).fdiv n = (k : Int)) (hk9 : n * k ≤ 80) (hk8 : k < 200) (t1 t2 : Tok)
   (h30 : ∀ p ∈ news, p.1 ≠ 37) (h37 : ∀ p ∈ news, p.1 ≠ 44) (o30 o37 : Obj) (hT30 : Tab30 o30 T0) (hT37 : Tab37 o37 T0) (hs0 : ∀ p ∈ T0, p ∈ news) :
   CS K02 P02 w H02 56 400 4000 ((37, o30) :: (44, o37) :: news) [.int av t1, .int bv t2]
    fun v nw => ∃ D u1 u2 o30' o37' ext, v = .ref D ∧ nw = (D, tup [.int ((av / bv : Nat) : Int) u1, .int ((av % bv : Nat) : Int) u2]) :: (37, o30') :: (44, o37') :: (ext ++ news) ∧ Tab30 o30' (ext ++ T0) ∧ Tab37 o37' (ext ++ T0) ∧ (∀ q ∈ news, q.1 < D) ∧ 44 < D ∧ ∀ q ∈ ext, (∀ p ∈ news, p.1 < q.1) ∧ 44 < q.1 := by
  have hlaw : (fun (_ : OpenLaw) (_ : Params → Frag) => True) Challenge.rw_pg0168_02 hdA.heap_1_1 := by k_fill; exact True.intro
  clear hlaw
  intro p loose mean mg mb dp un gd cn cs L a ccd cl outer A₀ base h₀ m s Q E B F X N T hH hcs hdp hun hret
  obtain ⟨ck, cnm, cg, cc, cm⟩ := cs
  obtain rfl : ck = .function := hcs
  obtain ⟨hH1, hH2⟩ := hH
  replace X : (hdA.heap_1_1 w.params).In h₀ := X
  have hn0 : 0 < n := hn ▸ pow_bits_pos hb
  have hn9 : n ≤ 30 := hn ▸ intBits_le_iff.mpr (by omega)
  refine wpAny_call ?_
  k_dflt k_enter
  (with_reducible rename Fr _ _ _ _ => lF0)
  refine frGen2 lF0 (a := PySem.Str.ofString "a") (b := PySem.Str.ofString "b") (by with_unfolding_all rfl) (by with_unfolding_all rfl) ?_
  clear lF0
  intro m0 lF0
  (repeat' ((fail_if_success (first | (with_reducible show wpAny _ _ (call (Value.ref _) _) _ _ _) | (with_reducible show wpAny _ _ (pyIter _) _ _ _) | (with_reducible show UnrPost _ _ _ _ _ _ _ _ _))); first | (k_unfold; (try dsimp only)) | (k_end; wrow_close) | ((with_reducible show wpAny _ _ (callWith _ (Value.ref _) _ _ _) _ _ _); (k_here; (k_dflt (refine' callWith_K ?k1 ?k2 ?_; (case k1 => k_asm); (case k2 => k_is); k_whole)))) | ((with_reducible show wpAny _ _ (eval (PySem.Expr.Name _ _) (envOf _ _ _ _ _)) _ _ _); k_dflt (refine' nameX_L ?F ?v ?_ ?a ?b; (case F => k_asm); (case a => rfl); (case b => rfl); (case v => rfl); k_whole)) | ((with_reducible show wpAny _ _ (storeName _ _ _) _ _ _); k_dflt (refine' storeX_L ?F ?N ?_ ?a ?b; (case F => k_asm); (case N => k_asm); (case a => rfl); (case b => rfl); k_whole; intro _ _ _; (try k_sweep))) | walk1 | (dsimp only; walk1) | (leave1; walk_say "STEP leave1"; try dsimp only)))
  rw [hn]
  refine' (i2dW (w := w) (T0 := T0) av n k hn0 hk hk8 (by omega) (by omega) _ _ ?h30 o30 hT30 ?hs9).use (K := K02) ?B ?F ?X ?N ?T ⟨hH1, hH2⟩ rfl ?hd ?hu ?_
  case N => k_asm
  case h30 => exact FMC.all ⟨show (44 : Addr) ≠ 37 by decide, h30⟩
  case hs9 => exact fun p hp => .tail _ (hs0 p hp)
  case B => k_asm
  case F => k_asm
  case X => k_asm
  case T => k_asm
  case hd => ktr_room
  case hu => ktr_units
  intro D vs o30' ext T30' hv hlt hext h1 tk1 F1 N1
  replace N1 := newsSub N1 ledA
  have hE37 : ∀ p ∈ ext ++ news, p.1 ≠ 44 := fun p hp => (List.mem_append.mp hp).elim (fun h => Nat.ne_of_gt ((hext p h).1 _ (.head _))) (h37 p)
  have hE30 : ∀ p ∈ ext ++ news, p.1 ≠ 37 := fun p hp => (List.mem_append.mp hp).elim (fun h => Nat.ne_of_gt (hext p h).2) (h30 p)
  (repeat' ((fail_if_success (first | (with_reducible show wpAny _ _ (call (Value.ref _) _) _ _ _) | (with_reducible show wpAny _ _ (pyIter _) _ _ _) | (with_reducible show UnrPost _ _ _ _ _ _ _ _ _))); first | (k_unfold; (try dsimp only)) | (k_end; wrow_close) | ((with_reducible show wpAny _ _ (eval (PySem.Expr.Name _ _) (envOf _ _ _ _ _)) _ _ _); k_dflt (refine' nameX_L ?F ?v ?_ ?a ?b; (case F => k_asm); (case a => rfl); (case b => rfl); (case v => rfl); k_whole)) | ((with_reducible show wpAny _ _ (storeName _ _ _) _ _ _); k_dflt (refine' storeX_L ?F ?N ?_ ?a ?b; (case F => k_asm); (case N => k_asm); (case a => rfl); (case b => rfl); k_whole; intro _ _ _; (try k_sweep))) | walk1 | (dsimp only; walk1) | (leave1; walk_say "STEP leave1"; try dsimp only)))
  rename_i Dq hA q1 q2 q3 q4 hB I hC F5 N5 q5 q6 q7 q8 q9
  rw [digs_cast] at hv
  have hroom := bits_room hn0 hk
  have hdl := digsN_length (2 ^ n) k av
  have hlv : vs.length = k := by have := hv.length; simpa [castL, hdl] using this
  refine' iter_revUnr (vs := vs) (lo := W.listOf vs.toArray 0) (n := 0) rfl ?Fb ?Nb ?off ?hm rfl rfl ?rest
  case Fb => k_asm
  case Nb => k_asm
  case off => exact offI_of (by (repeat' first | exact List.forall_mem_nil _ | (refine FMC.all ⟨?_, ?_⟩; (focus (refine ltN ?_; (try dsimp only); omega))) | assumption | ((with_reducible rename AllLt _ _ => z1); first | exact all_lt z1 (by omega) | clear z1)))
  case hm => k_mem
  case rest =>
    refine' RevIndQ (DivP Dq ((D, W.listOf vs.toArray 0) :: (37, o30') :: (44, o37) :: (ext ++ news)) bv n (divLoop (2 ^ n) bv (digsN (2 ^ n) k av).reverse 0 [])) ?turn ?done _ _ _ ?start
    case start =>
      refine fun _ kk => kk (digsN (2 ^ n) k av).reverse 0 [] [] _ _ _ _ ?_ .nil rfl rfl (by rw [← hn]; exact rfl) rfl hb ?_ ?_ rfl
      · have := ints_reverse hv
        rwa [castL, ← List.map_reverse] at this
      · intro d hd
        exact digsN_lt (Nat.two_pow_pos n) k av hroom d (List.mem_reverse.mp hd)
      · simp [hdl]; omega
    case turn =>
      intro v us m nw hDv
      apply DivP.turn hDv
      clear hDv
      intro d td rd r q qv tr tb tn c hus2 hqv e1 e2 e3 e4 hr hrd hlen hR it h9 tk9 Q9 E9 hU hit F9 N9
      focus
        have hd0 := hrd d (.head _)
        have hr80 : r < 2 ^ 80 := by omega
        rw [mx4 e1 e2 e3 e4] at F9
        (repeat' ((fail_if_success (first | (with_reducible show wpAny _ _ (call (Value.ref _) _) _ _ _) | (with_reducible show wpAny _ _ (pyIter _) _ _ _) | (with_reducible show UnrPost _ _ _ _ _ _ _ _ _))); first | (k_unfold; (try dsimp only)) | (k_end; wrow_close) | ((with_reducible show wpAny _ _ (binaryOp .LShift (Value.int _ _) (Value.int _ _)) _ _ _); with_reducible refine' r_shl ?k1 ?k2 ?_; (case k1 => first | with_reducible assumption | exact div_le_80 (by with_reducible assumption)); (case k2 => first | omega | exact e_ok (by omega) (by omega))) | ((with_reducible show wpAny _ _ (callWith _ (Value.ref _) _ _ _) _ _ _); (k_here; (k_dflt (refine' callWith_K ?k1 ?k2 ?_; (case k1 => k_asm); (case k2 => k_is); k_whole)))) | ((with_reducible show wpAny _ _ (eval (PySem.Expr.Name _ _) (envOf _ _ _ _ _)) _ _ _); k_dflt (refine' nameX_L ?F ?v ?_ ?a ?b; (case F => k_asm); (case a => rfl); (case b => rfl); (case v => rfl); k_whole)) | walk1 | (dsimp only; walk1) | (leave1; walk_say "STEP leave1"; try dsimp only)))
        refine' (div21W (w := w) (r * 2 ^ n + d) bv n (div_room hr hb9 hd0 hn9) hb hb9 _ (Int.natCast_add _ _).symm _ _ _).use (K := K02) ?B1 ?F1 ?X1 ?N1 ?T1 ⟨hH1, hH2⟩ rfl ?hd1 ?hu1 ?_
        case B1 => k_asm
        case F1 => k_asm
        case X1 => k_asm
        case N1 => k_asm
        case T1 => k_asm
        case hd1 => ktr_room
        case hu1 => ktr_units
        intro D2 u1 u2 l2 h2 tk2 F2 N2
        k_lt l2
        (repeat' ((fail_if_success (first | (with_reducible show wpAny _ _ (call (Value.ref _) _) _ _ _) | (with_reducible show wpAny _ _ (pyIter _) _ _ _) | (with_reducible show UnrPost _ _ _ _ _ _ _ _ _))); first | (k_unfold; (try dsimp only)) | (k_end; wrow_close) | ((with_reducible show wpAny _ _ (eval (PySem.Expr.Name _ _) (envOf _ _ _ _ _)) _ _ _); k_dflt (refine' nameX_L ?F ?v ?_ ?a ?b; (case F => k_asm); (case a => rfl); (case b => rfl); (case v => rfl); k_whole)) | ((with_reducible show wpAny _ _ (storeName _ _ _) _ _ _); k_dflt (refine' storeX_L ?F ?N ?_ ?a ?b; (case F => k_asm); (case N => k_asm); (case a => rfl); (case b => rfl); k_whole; intro _ _ _; (try k_sweep))) | walk1 | (dsimp only; walk1) | (leave1; walk_say "STEP leave1"; try dsimp only)))
        (with_reducible rename News _ _ _ _ => N8)
        simp only [List.push_toArray] at N8
        refine hU (by k_asm) N8 _ ?sub ?off ⟨?mem, fun _ kk => kk rd _ _ _ _ _ _ (c + 1) hus2 (ints_pushN hqv _ u1) rfl rfl rfl rfl (Nat.mod_lt _ hb) (fun x hx => hrd x (.tail _ hx)) ?len hR⟩
        case sub => (repeat' first | exact List.forall_mem_nil _ | refine FMC.all ⟨by k_mem, ?_⟩ | (intro p9 hp9; (repeat' first | assumption | refine List.Mem.tail _ ?_)))
        case off => exact ne_lt (by (repeat' first | exact List.forall_mem_nil _ | (refine FMC.all ⟨?_, ?_⟩; (focus (refine ltN ?_; (try dsimp only); omega))) | assumption | ((with_reducible rename AllLt _ _ => z1); first | exact all_lt z1 (by omega) | clear z1)))
        case mem => k_mem
        case len => simp only [List.length_append, List.length_cons, List.length_nil] at hlen ⊢; omega
    case done =>
      intro m nw hDv
      apply DivP.done hDv
      clear hDv
      intro r q qv tr tb tn c hqv e1 e2 e3 e4 hr hlen hR h9 tk9 F9 N9
      focus
        rw [mx4 e1 e2 e3 e4] at F9
        have hlq : qv.length = q.length := by have := hqv.length; simpa [castL] using this
        have hlq9 : qv.length < 200 := by omega
        (repeat' ((fail_if_success (first | (with_reducible show wpAny _ _ (call (Value.ref _) _) _ _ _) | (with_reducible show wpAny _ _ (pyIter _) _ _ _) | (with_reducible show UnrPost _ _ _ _ _ _ _ _ _))); first | (k_unfold; (try dsimp only)) | (k_end; wrow_close) | ((with_reducible show wpAny _ _ (call (Value.builtin "list.reverse") _) _ _ _); (k_dflt (refine' my_reverse ?gF ?gN ?gU ?gz ?_; (case gF => k_asm); (case gN => k_asm); (case gU => k_upd); (case gz => omega)); intro _ _ _)) | ((with_reducible show wpAny _ _ (callWith _ (Value.ref _) _ _ _) _ _ _); (k_here; (k_dflt (refine' callWith_K ?k1 ?k2 ?_; (case k1 => k_asm); (case k2 => k_is); k_whole)))) | ((with_reducible show wpAny _ _ (eval (PySem.Expr.Name _ _) (envOf _ _ _ _ _)) _ _ _); k_dflt (refine' nameX_L ?F ?v ?_ ?a ?b; (case F => k_asm); (case a => rfl); (case b => rfl); (case v => rfl); k_whole)) | walk1 | (dsimp only; walk1) | (leave1; walk_say "STEP leave1"; try dsimp only)))
        obtain ⟨z1, z2, z3, z4⟩ := divAll hb hroom hR
        refine' (d2iW (w := w) (T0 := T0) q.reverse n (by omega) z3 (by rw [z4]; exact hk9) (by omega) Dq qv.reverse c (.head _) ?hi _ ?h37b o37 hT37 ?hTb).use (K := K02) ?B2 ?F2 ?X2 ?N2 ?T2 ⟨hH1, hH2⟩ rfl ?hd2 ?hu2 ?_
        case B2 => k_asm
        case F2 => k_asm
        case X2 => k_asm
        case N2 => exact newsSub (T := (44, o37) :: (Dq, W.listOf qv.reverse.toArray c) :: (37, o30') :: (ext ++ news)) (by k_asm) (by (repeat' first | exact List.forall_mem_nil _ | refine FMC.all ⟨by k_mem, ?_⟩ | (intro p9 hp9; (repeat' first | assumption | refine List.Mem.tail _ ?_))))
        case T2 => k_asm
        case hd2 => ktr_room
        case hu2 => ktr_units
        case hi =>
          have := ints_reverse hqv
          rwa [castL, ← List.map_reverse] at this
        case h37b => exact FMC.all ⟨Nat.ne_of_gt q3, FMC.all ⟨show (37 : Addr) ≠ 44 by decide, hE37⟩⟩
        case hTb => exact fun p hp => .tail _ (.tail _ (List.mem_append.mpr (.inr (hs0 p hp))))
        intro t9 o37' ext2 T37' hext2 h2 tk2 F2 N2
        (repeat' ((fail_if_success (first | (with_reducible show wpAny _ _ (call (Value.ref _) _) _ _ _) | (with_reducible show wpAny _ _ (pyIter _) _ _ _) | (with_reducible show UnrPost _ _ _ _ _ _ _ _ _))); first | (k_unfold; (try dsimp only)) | (k_end; wrow_close) | ((with_reducible show wpAny _ _ (newTuple _) _ _ _); (k_dflt (refine' kup_newTuple ?gF9 ?gN9 ?_ ?gz9; (case gF9 => k_asm); (case gN9 => k_asm); (case gz9 => exact Nat.le_of_ble_eq_true rfl)); intro _ _ _ _; walk_at "MINE ltI")) | ((with_reducible show wpAny _ _ (eval (PySem.Expr.Name _ _) (envOf _ _ _ _ _)) _ _ _); k_dflt (refine' nameX_L ?F ?v ?_ ?a ?b; (case F => k_asm); (case a => rfl); (case b => rfl); (case v => rfl); k_whole)) | ((with_reducible show wpAny _ _ (storeName _ _ _) _ _ _); k_dflt (refine' storeX_L ?F ?N ?_ ?a ?b; (case F => k_asm); (case N => k_asm); (case a => rfl); (case b => rfl); k_whole; intro _ _ _; (try k_sweep))) | walk1 | (dsimp only; walk1) | (leave1; walk_say "STEP leave1"; try dsimp only)))
        (with_reducible rename News _ _ _ _ => kN8)
        (with_reducible rename AllLt _ _ => zl)
        rw [z2] at kN8
        subst z1
        exact hret _ _ _ _ (by k_asm) (newsSub kN8 endLed) ⟨_, _, _, o30', o37', ext2 ++ ext, rfl, rfl, T30'.mono app_mono, T37'.mono app_monoR, fun x hx => allLt_mem zl x (List.mem_append.mpr (.inr (.tail _ (.tail _ (List.mem_append.mpr (.inr hx)))))), by k_asm, fresh_app hext2 hext⟩
noncomputable def DmPost (news T0 : Led) (x y : Int) (v : Value) (nw : Led) : Prop :=
  ∃ D u1 u2 o30' o37' ext, v = .ref D ∧ nw = (D, tup [.int (x.fdiv y) u1, .int (x.fmod y) u2]) :: (37, o30') :: (44, o37') :: (ext ++ news) ∧ Tab30 o30' (ext ++ T0) ∧ Tab37 o37' (ext ++ T0) ∧ (∀ q ∈ news, q.1 < D) ∧ 44 < D ∧ ∀ q ∈ ext, (∀ p ∈ news, p.1 < q.1) ∧ 44 < q.1
theorem dmpW {w : World} {news T0 : Led} (av bv n k : Nat) (ha : av < 2 ^ 60) (hb : 0 < bv) (hb9 : bv < 1073741824) (hn : Builtin.Int.intBits (bv : Int) = n) (hk : ((Builtin.Int.intBits av : Int) + n - 1).fdiv n = (k : Int)) (hk9 : n * k ≤ 80) (hk8 : k < 200) (t1 t2 : Tok)
   (h30 : ∀ p ∈ news, p.1 ≠ 37) (h37 : ∀ p ∈ news, p.1 ≠ 44) (o30 o37 : Obj) (hT30 : Tab30 o30 T0) (hT37 : Tab37 o37 T0) (hs0 : ∀ p ∈ T0, p ∈ news) :
   CW K02 P02 w H02 56 400 4000 ((37, o30) :: (44, o37) :: news) [.int av t1, .int bv t2] (fun G => ∀ D u1 u2 o30' o37' ext, (Tab30 o30' (ext ++ T0)) → (Tab37 o37' (ext ++ T0)) → ((∀ q ∈ news, q.1 < D)) → (44 < D) → (∀ q ∈ ext, (∀ p ∈ news, p.1 < q.1) ∧ 44 < q.1) → G (.ref D) ((D, tup [.int ((av / bv : Nat) : Int) u1, .int ((av % bv : Nat) : Int) u2]) :: (37, o30') :: (44, o37') :: (ext ++ news))) :=
  CS.toW (@dmp w news T0 av bv n k ha hb hb9 hn hk hk9 hk8 t1 t2 h30 h37 o30 o37 hT30 hT37 hs0) (fun v nw G hR hG => by
    obtain ⟨D, u1, u2, o30', o37', ext, rfl, rfl, r09, r19, r29, r39, r49⟩ := hR
    exact hG D u1 u2 o30' o37' ext r09 r19 r29 r39 r49)
set_option maxRecDepth 100000 in
set_option maxHeartbeats 4000000 in
theorem idm0 {w : World} {news T0 : Led} (av bv : Nat) (ha : av < 2 ^ 60) (hb : 0 < bv) (hb9 : bv < 65536) (x y : Int) (hx : x = (av : Int)) (hy : y = (bv : Int)) (t1 t2 : Tok) (h30 : ∀ p ∈ news, p.1 ≠ 37) (h37 : ∀ p ∈ news, p.1 ≠ 44) (o30 o37 : Obj) (hT30 : Tab30 o30 T0) (hT37 : Tab37 o37 T0) (hs0 : ∀ p ∈ T0, p ∈ news) :
   CS K02 P02 w H02 63 420 4200 ((37, o30) :: (44, o37) :: news) [.int x t1, .int y t2] (DmPost news T0 x y) := by
  subst hx; subst hy
  have hlaw : (fun (_ : OpenLaw) (_ : Params → Frag) => True) Challenge.rw_pg0168_02 hdA.heap_1_1 := by k_fill; exact True.intro
  clear hlaw
  intro p loose mean mg mb dp un gd cn cs L a ccd cl outer A₀ base h₀ m s Q E B F X N T hH hcs hdp hun hret
  obtain ⟨ck, cnm, cg, cc, cm⟩ := cs
  obtain rfl : ck = .function := hcs
  obtain ⟨hH1, hH2⟩ := hH
  replace X : (hdA.heap_1_1 w.params).In h₀ := X
  obtain ⟨n, k, e1, e2, e3, e4⟩ := div_k ha hb hb9
  refine wpAny_call ?_
  k_dflt k_enter
  (with_reducible rename Fr _ _ _ _ => lF0)
  refine frGen2 lF0 (a := PySem.Str.ofString "a") (b := PySem.Str.ofString "b") (by with_unfolding_all rfl) (by with_unfolding_all rfl) ?_
  clear lF0
  intro m0 lF0
  (repeat' ((fail_if_success (first | (with_reducible show wpAny _ _ (call (Value.ref _) _) _ _ _) | (with_reducible show wpAny _ _ (pyIter _) _ _ _) | (with_reducible show UnrPost _ _ _ _ _ _ _ _ _))); first | (k_unfold; (try dsimp only)) | (k_end; wrow_close) | ((with_reducible show ite _ _ _); refine ite_neg (by first | omega | (simp only [beq_iff_eq, bne_iff_ne, decide_eq_true_eq, Int.not_lt, Int.not_le]; omega)) ?_) | ((with_reducible show wpAny _ _ (callWith _ (Value.ref _) _ _ _) _ _ _); (k_here; (k_dflt (refine' callWith_K ?k1 ?k2 ?_; (case k1 => k_asm); (case k2 => k_is); k_whole)))) | ((with_reducible show wpAny _ _ (eval (PySem.Expr.Name _ _) (envOf _ _ _ _ _)) _ _ _); k_dflt (refine' nameX_L ?F ?v ?_ ?a ?b; (case F => k_asm); (case a => rfl); (case b => rfl); (case v => rfl); k_whole)) | walk1 | (dsimp only; walk1) | (leave1; walk_say "STEP leave1"; try dsimp only)))
  refine' ((dmpW (w := w) (T0 := T0) av bv n k ha hb (by omega) e1 e2 e3 e4) _ _ h30 h37 o30 o37 hT30 hT37 hs0).use (K := K02) ?B ?F ?X ?N ?T ⟨hH1, hH2⟩ rfl ?hd ?hu ?_
  case N => k_asm
  case B => k_asm
  case F => k_asm
  case X => k_asm
  case T => k_asm
  case hd => ktr_room
  case hu => ktr_units
  intro D u1 u2 o30' o37' ext T30' T37' l1 l2 l3 h1 tk1 F1 N1
  (repeat' ((fail_if_success (first | (with_reducible show wpAny _ _ (call (Value.ref _) _) _ _ _) | (with_reducible show wpAny _ _ (pyIter _) _ _ _) | (with_reducible show UnrPost _ _ _ _ _ _ _ _ _))); first | (k_unfold; (try dsimp only)) | (k_end; wrow_close) | walk1 | (dsimp only; walk1) | (leave1; walk_say "STEP leave1"; try dsimp only)))
  rw [(fdm_nat av bv).1, (fdm_nat av bv).2] at N1
  exact hret _ _ _ _ (by k_asm) (by k_asm) ⟨D, u1, u2, o30', o37', ext, rfl, by rw [(fdm_nat av bv).1, (fdm_nat av bv).2], T30', T37', l1, l2, l3⟩
theorem idm0W {w : World} {news T0 : Led} (av bv : Nat) (ha : av < 2 ^ 60) (hb : 0 < bv) (hb9 : bv < 65536) (x y : Int) (hx : x = (av : Int)) (hy : y = (bv : Int)) (t1 t2 : Tok) (h30 : ∀ p ∈ news, p.1 ≠ 37) (h37 : ∀ p ∈ news, p.1 ≠ 44) (o30 o37 : Obj) (hT30 : Tab30 o30 T0) (hT37 : Tab37 o37 T0) (hs0 : ∀ p ∈ T0, p ∈ news) :
   CW K02 P02 w H02 63 420 4200 ((37, o30) :: (44, o37) :: news) [.int x t1, .int y t2] (fun G => ∀ D u1 u2 o30' o37' ext, (Tab30 o30' (ext ++ T0)) → (Tab37 o37' (ext ++ T0)) → ((∀ q ∈ news, q.1 < D)) → (44 < D) → (∀ q ∈ ext, (∀ p ∈ news, p.1 < q.1) ∧ 44 < q.1) → G (.ref D) ((D, tup [.int (x.fdiv y) u1, .int (x.fmod y) u2]) :: (37, o30') :: (44, o37') :: (ext ++ news))) :=
  CS.toW (@idm0 w news T0 av bv ha hb hb9 x y hx hy t1 t2 h30 h37 o30 o37 hT30 hT37 hs0) (fun v nw G hR hG => by
    obtain ⟨D, u1, u2, o30', o37', ext, rfl, rfl, r09, r19, r29, r39, r49⟩ := hR
    exact hG D u1 u2 o30' o37' ext r09 r19 r29 r39 r49)
set_option maxRecDepth 100000 in
set_option maxHeartbeats 4000000 in
theorem idm1 {w : World} {news T0 : Led} (x : Int) (bv : Nat) (ha : x.natAbs < 2 ^ 59) (hb : 0 < bv) (hb9 : bv < 65536) (y : Int) (hy : y = (bv : Int)) (t1 t2 : Tok) (h30 : ∀ p ∈ news, p.1 ≠ 37) (h37 : ∀ p ∈ news, p.1 ≠ 44) (o30 o37 : Obj) (hT30 : Tab30 o30 T0) (hT37 : Tab37 o37 T0) (hs0 : ∀ p ∈ T0, p ∈ news) :
   CS K02 P02 w H02 63 440 4400 ((37, o30) :: (44, o37) :: news) [.int x t1, .int y t2] (DmPost news T0 x y) := by
  by_cases hx : 0 ≤ x
  · intro p loose mean mg mb dp un gd cn cs L a ccd cl outer A₀ base h₀ m s Q E B F X N T hH hcs hdp hun hret
    exact (idm0 x.toNat bv (by omega) hb hb9 x y (by omega) hy t1 t2 h30 h37 o30 o37 hT30 hT37 hs0).use B F X N T hH hcs (by omega) (by omega) hret
  subst hy
  have hlaw : (fun (_ : OpenLaw) (_ : Params → Frag) => True) Challenge.rw_pg0168_02 hdA.heap_1_1 := by k_fill; exact True.intro
  clear hlaw
  intro p loose mean mg mb dp un gd cn cs L a ccd cl outer A₀ base h₀ m s Q E B F X N T hH hcs hdp hun hret
  obtain ⟨ck, cnm, cg, cc, cm⟩ := cs
  obtain rfl : ck = .function := hcs
  obtain ⟨hH1, hH2⟩ := hH
  replace X : (hdA.heap_1_1 w.params).In h₀ := X
  refine wpAny_call ?_
  k_dflt k_enter
  (with_reducible rename Fr _ _ _ _ => lF0)
  refine frGen2 lF0 (a := PySem.Str.ofString "a") (b := PySem.Str.ofString "b") (by with_unfolding_all rfl) (by with_unfolding_all rfl) ?_
  clear lF0
  intro m0 lF0
  (repeat' ((fail_if_success (first | (with_reducible show wpAny _ _ (call (Value.ref _) _) _ _ _) | (with_reducible show wpAny _ _ (pyIter _) _ _ _) | (with_reducible show UnrPost _ _ _ _ _ _ _ _ _))); first | (k_unfold; (try dsimp only)) | (k_end; wrow_close) | ((with_reducible show ite _ _ _); refine ite_pos (by first | omega | (simp only [beq_iff_eq, bne_iff_ne, decide_eq_true_eq, Int.not_lt, Int.not_le]; omega)) ?_) | ((with_reducible show ite _ _ _); refine ite_neg (by first | omega | (simp only [beq_iff_eq, bne_iff_ne, decide_eq_true_eq, Int.not_lt, Int.not_le]; omega)) ?_) | ((with_reducible show wpAny _ _ (callWith _ (Value.ref _) _ _ _) _ _ _); (k_here; (k_dflt (refine' callWith_K ?k1 ?k2 ?_; (case k1 => k_asm); (case k2 => k_is); k_whole)))) | ((with_reducible show wpAny _ _ (eval (PySem.Expr.Name _ _) (envOf _ _ _ _ _)) _ _ _); k_dflt (refine' nameX_L ?F ?v ?_ ?a ?b; (case F => k_asm); (case a => rfl); (case b => rfl); (case v => rfl); k_whole)) | walk1 | (dsimp only; walk1) | (leave1; walk_say "STEP leave1"; try dsimp only)))
  refine' ((idm0W (w := w) (T0 := T0) (-x - 1).toNat bv (by omega) hb hb9 _ _ ?hx rfl) _ _ h30 h37 o30 o37 hT30 hT37 hs0).use (K := K02) ?B ?F ?X ?N ?T ⟨hH1, hH2⟩ rfl ?hd ?hu ?_
  case N => k_asm
  case B => k_asm
  case F => k_asm
  case X => k_asm
  case T => k_asm
  case hd => ktr_room
  case hu => ktr_units
  case hx => show Builtin.bitNot x = _; unfold Builtin.bitNot; omega
  intro D u1 u2 o30' o37' ext T30' T37' l1 l2 l3 h1 tk1 F1 N1
  (repeat' ((fail_if_success (first | (with_reducible show wpAny _ _ (call (Value.ref _) _) _ _ _) | (with_reducible show wpAny _ _ (pyIter _) _ _ _) | (with_reducible show UnrPost _ _ _ _ _ _ _ _ _))); first | (k_unfold; (try dsimp only)) | (k_end; wrow_close) | ((with_reducible show wpAny _ _ (newTuple _) _ _ _); (k_dflt (refine' kup_newTuple ?gF9 ?gN9 ?_ ?gz9; (case gF9 => k_asm); (case gN9 => k_asm); (case gz9 => exact Nat.le_of_ble_eq_true rfl)); intro _ _ _ _; walk_at "MINE ltI")) | ((with_reducible show wpAny _ _ (eval (PySem.Expr.Name _ _) (envOf _ _ _ _ _)) _ _ _); k_dflt (refine' nameX_L ?F ?v ?_ ?a ?b; (case F => k_asm); (case a => rfl); (case b => rfl); (case v => rfl); k_whole)) | ((with_reducible show wpAny _ _ (storeName _ _ _) _ _ _); k_dflt (refine' storeX_L ?F ?N ?_ ?a ?b; (case F => k_asm); (case N => k_asm); (case a => rfl); (case b => rfl); k_whole; intro _ _ _; (try k_sweep))) | walk1 | (dsimp only; walk1) | (leave1; walk_say "STEP leave1"; try dsimp only)))
  (with_reducible rename News _ _ _ _ => kN8)
  (with_reducible rename AllLt _ _ => zl)
  exact hret _ _ _ _ (by k_asm) (newsSub kN8 dropLed) ⟨_, _, _, o30', o37', ext, rfl, tupII (not1 x bv hb).1 (not1 x bv hb).2, T30', T37', fun z hz => allLt_mem zl z (List.mem_append.mpr (.inr hz)), by k_asm, l3⟩
theorem idm1W {w : World} {news T0 : Led} (x : Int) (bv : Nat) (ha : x.natAbs < 2 ^ 59) (hb : 0 < bv) (hb9 : bv < 65536) (y : Int) (hy : y = (bv : Int)) (t1 t2 : Tok) (h30 : ∀ p ∈ news, p.1 ≠ 37) (h37 : ∀ p ∈ news, p.1 ≠ 44) (o30 o37 : Obj) (hT30 : Tab30 o30 T0) (hT37 : Tab37 o37 T0) (hs0 : ∀ p ∈ T0, p ∈ news) :
   CW K02 P02 w H02 63 440 4400 ((37, o30) :: (44, o37) :: news) [.int x t1, .int y t2] (fun G => ∀ D u1 u2 o30' o37' ext, (Tab30 o30' (ext ++ T0)) → (Tab37 o37' (ext ++ T0)) → ((∀ q ∈ news, q.1 < D)) → (44 < D) → (∀ q ∈ ext, (∀ p ∈ news, p.1 < q.1) ∧ 44 < q.1) → G (.ref D) ((D, tup [.int (x.fdiv y) u1, .int (x.fmod y) u2]) :: (37, o30') :: (44, o37') :: (ext ++ news))) :=
  CS.toW (@idm1 w news T0 x bv ha hb hb9 y hy t1 t2 h30 h37 o30 o37 hT30 hT37 hs0) (fun v nw G hR hG => by
    obtain ⟨D, u1, u2, o30', o37', ext, rfl, rfl, r09, r19, r29, r39, r49⟩ := hR
    exact hG D u1 u2 o30' o37' ext r09 r19 r29 r39 r49)
set_option compiler.extract_closed false
set_option maxRecDepth 100000 in
set_option maxHeartbeats 4000000 in
theorem repG {w : World} {news : Led} (q : RPr) (r : List RPr) (x : PySem.Str) (hx : RepOk (q :: r) x) (hl : (q :: r).length ≤ 40) (tx : Tok) :
   CS K02 P02 w H02 21 30 300 news (.str x tx :: flatP (q :: r)) fun v nw => ∃ y t, v = .str y t ∧ nw = news ∧ y.cps.toList = repF (q :: r) x.cps.toList := by
  have hlaw : (fun (_ : OpenLaw) (_ : Params → Frag) => True) Challenge.rw_pg0168_02 hdA.heap_1_1 := by k_fill; exact True.intro
  clear hlaw
  intro p loose mean mg mb dp un gd cn cs L a ccd cl outer A₀ base h₀ m s Q E B F X N T hH hcs hdp hun hret
  obtain ⟨ck, cnm, cg, cc, cm⟩ := cs
  obtain rfl : ck = .function := hcs
  obtain ⟨hH1, hH2⟩ := hH
  replace X : (hdA.heap_1_1 w.params).In h₀ := X
  refine wpAny_call ?_
  k_dflt (refine' kp_rest ?k1 ?k2 ?k3 ?k4 ?k5 ?kA ?kF ?kK ?k6 ?k7 ?k8 ?kV ?kP ?kG ?kB ?_ ?c2 ?c3 ?c4 ?c5; (case kA => exact rfl); (case kF => exact rfl); (case kK => exact rfl); (case k1 => k_asm); (case k2 => k_asm); (case k3 => k_asm); (case k4 => k_asm); (case k5 => k_asm); (case k6 => k_is); (case k7 => k_is); (case k8 => k_room); (case kV => exact rfl); (case kP => exact bind_rest (by rw [List.length_cons, flatP_length]; have := hl; rw [List.length_cons] at this; omega)); (case kG => exact fun _ => rfl); (case kB => exact fun _ => locs rfl); (case c5 => decide); (case c2 => exact rfl); (case c3 => exact rfl); (case c4 => exact rfl); k_whole; intro T g1 L1 hA l1 FG1 F1 N1 B1 X1 T1; (try k_lt l1); (try dsimp only); (try k_lift B1); (try k_fold))
  (repeat' ((fail_if_success (first | (with_reducible show wpAny _ _ (call (Value.ref _) _) _ _ _) | (with_reducible show wpAny _ _ (pyIter _) _ _ _) | (with_reducible show UnrPost _ _ _ _ _ _ _ _ _) | (with_reducible show wpAny _ _ (exec (Stmt.Assign _ (PySem.Expr.ListComp _ _ _ _) _) _) _ _ _) | (with_reducible show wpAny _ _ (eval (PySem.Expr.ListComp _ _ _ _) _) _ _ _) | (with_reducible show wpAny _ _ (call (Value.type "zip") _) _ _ _) | (with_reducible show MEnd _ _ _ _ _ _ _ _ _ _ _ _ _) | (with_reducible show wpAny _ _ (exec (Stmt.For _ _ _ _ _) _) _ _ _) | (with_reducible show wpAny _ _ (exec (Stmt.While _ _ _ _) _) _ _ _) | (with_reducible show wpAny _ _ (eval (PySem.Expr.IfExp _ _ _ _) _) _ _ _))); first | (k_unfold; (try dsimp only)) | (k_end; wrow_close) | walk1 | (dsimp only; walk1) | (leave1; walk_say "STEP leave1"; try dsimp only)))
  refine WhileStartQ (n := (q :: r).length) (RepP news (repF (q :: r) x.cps.toList)) (RepX news (repF (q :: r) x.cps.toList)) ?pe F1 (newsSub (T := (T, ({ cls := .type "tuple", data := .seq (flatP (q :: r)).toArray } : Obj)) :: news) N1 (fun _ h => h)) ?start ?turn ?done
  case pe => first | passes_own | with_unfolding_all passes_own
  case start => exact fun _ k => k (q :: r) x tx T rfl hl rfl rfl hx rfl (fun z hz => Nat.ne_of_lt (allLt_mem l1 z hz))
  case done =>
    intro m nw hRx
    apply hRx
    clear hRx
    intro y ty e1 hy h9 tk9 F9 N9
    rw [mx1 e1] at F9
    (repeat' ((fail_if_success (first | (with_reducible show wpAny _ _ (call (Value.ref _) _) _ _ _) | (with_reducible show wpAny _ _ (pyIter _) _ _ _) | (with_reducible show UnrPost _ _ _ _ _ _ _ _ _) | (with_reducible show wpAny _ _ (exec (Stmt.Assign _ (PySem.Expr.ListComp _ _ _ _) _) _) _ _ _) | (with_reducible show wpAny _ _ (eval (PySem.Expr.ListComp _ _ _ _) _) _ _ _) | (with_reducible show wpAny _ _ (call (Value.type "zip") _) _ _ _) | (with_reducible show MEnd _ _ _ _ _ _ _ _ _ _ _ _ _) | (with_reducible show wpAny _ _ (exec (Stmt.For _ _ _ _ _) _) _ _ _) | (with_reducible show wpAny _ _ (exec (Stmt.While _ _ _ _) _) _ _ _) | (with_reducible show wpAny _ _ (eval (PySem.Expr.IfExp _ _ _ _) _) _ _ _))); first | (k_unfold; (try dsimp only)) | (k_end; wrow_close) | ((with_reducible show wpAny _ _ (eval (PySem.Expr.Name _ _) (envOf _ _ _ _ _)) _ _ _); k_dflt (refine' nameX_L ?F ?v ?_ ?a ?b; (case F => k_asm); (case a => rfl); (case b => rfl); (case v => rfl); k_whole)) | walk1 | (dsimp only; walk1) | (leave1; walk_say "STEP leave1"; try dsimp only)))
    exact hret _ _ _ _ (by k_asm) (by k_asm) ⟨_, _, rfl, rfl, hy⟩
  case turn =>
    intro n m nw hP
    apply hP
    clear hP
    intro ps y ty T hn hpl e1 e2 hok hR hT h9 tk9 Q9 Qn9 E9 hU hUn F9 N9
    rw [mx2 e1 e2] at F9
    cases ps with
    | nil =>
      (repeat' ((fail_if_success (first | (with_reducible show wpAny _ _ (call (Value.ref _) _) _ _ _) | (with_reducible show wpAny _ _ (pyIter _) _ _ _) | (with_reducible show UnrPost _ _ _ _ _ _ _ _ _) | (with_reducible show wpAny _ _ (exec (Stmt.Assign _ (PySem.Expr.ListComp _ _ _ _) _) _) _ _ _) | (with_reducible show wpAny _ _ (eval (PySem.Expr.ListComp _ _ _ _) _) _ _ _) | (with_reducible show wpAny _ _ (call (Value.type "zip") _) _ _ _) | (with_reducible show MEnd _ _ _ _ _ _ _ _ _ _ _ _ _) | (with_reducible show wpAny _ _ (exec (Stmt.For _ _ _ _ _) _) _ _ _) | (with_reducible show wpAny _ _ (exec (Stmt.While _ _ _ _) _) _ _ _) | (with_reducible show wpAny _ _ (eval (PySem.Expr.IfExp _ _ _ _) _) _ _ _))); first | (k_unfold; (try dsimp only)) | (k_end; wrow_close) | ((with_reducible show wpAny _ _ (eval (PySem.Expr.Name _ _) (envOf _ _ _ _ _)) _ _ _); k_dflt (refine' nameX_L ?F ?v ?_ ?a ?b; (case F => k_asm); (case a => rfl); (case b => rfl); (case v => rfl); k_whole)) | walk1 | (dsimp only; walk1) | (leave1; walk_say "STEP leave1"; try dsimp only)))
      exact hUn (by k_asm) (by k_asm) news (by (repeat' first | exact List.forall_mem_nil _ | refine FMC.all ⟨by k_mem, ?_⟩ | (intro p9 hp9; (repeat' first | assumption | refine List.Mem.tail _ ?_)))) (fun _ k => k _ _ rfl hR)
    | cons p r =>
      (repeat' ((fail_if_success (first | (with_reducible show wpAny _ _ (call (Value.ref _) _) _ _ _) | (with_reducible show wpAny _ _ (pyIter _) _ _ _) | (with_reducible show UnrPost _ _ _ _ _ _ _ _ _) | (with_reducible show wpAny _ _ (exec (Stmt.Assign _ (PySem.Expr.ListComp _ _ _ _) _) _) _ _ _) | (with_reducible show wpAny _ _ (eval (PySem.Expr.ListComp _ _ _ _) _) _ _ _) | (with_reducible show wpAny _ _ (call (Value.type "zip") _) _ _ _) | (with_reducible show MEnd _ _ _ _ _ _ _ _ _ _ _ _ _) | (with_reducible show wpAny _ _ (exec (Stmt.For _ _ _ _ _) _) _ _ _) | (with_reducible show wpAny _ _ (exec (Stmt.While _ _ _ _) _) _ _ _) | (with_reducible show wpAny _ _ (eval (PySem.Expr.IfExp _ _ _ _) _) _ _ _))); first | (k_unfold; (try dsimp only)) | (k_end; wrow_close) | ((with_reducible show wpAny _ _ (eval (PySem.Expr.Name _ _) (envOf _ _ _ _ _)) _ _ _); k_dflt (refine' nameX_L ?F ?v ?_ ?a ?b; (case F => k_asm); (case a => rfl); (case b => rfl); (case v => rfl); k_whole)) | walk1 | (dsimp only; walk1) | (leave1; walk_say "STEP leave1"; try dsimp only)))
      have hz : (flatP (p :: r)).length ≤ 1000 := by rw [flatP_length]; omega
      simp only [flatP] at N9 hz
      k_dflt (refine' ktl_truthyK ?tN ?tm ?tz ?_; (case tN => k_asm); (case tm => exact .head _); (case tz => exact hz))
      refine WhlIf.yes rfl ?_
      obtain ⟨o1, o2, o3, o4, o5⟩ := hok
      (repeat' ((fail_if_success (first | (with_reducible show wpAny _ _ (call (Value.ref _) _) _ _ _) | (with_reducible show wpAny _ _ (pyIter _) _ _ _) | (with_reducible show UnrPost _ _ _ _ _ _ _ _ _) | (with_reducible show wpAny _ _ (exec (Stmt.Assign _ (PySem.Expr.ListComp _ _ _ _) _) _) _ _ _) | (with_reducible show wpAny _ _ (eval (PySem.Expr.ListComp _ _ _ _) _) _ _ _) | (with_reducible show wpAny _ _ (call (Value.type "zip") _) _ _ _) | (with_reducible show MEnd _ _ _ _ _ _ _ _ _ _ _ _ _) | (with_reducible show wpAny _ _ (exec (Stmt.For _ _ _ _ _) _) _ _ _) | (with_reducible show wpAny _ _ (exec (Stmt.While _ _ _ _) _) _ _ _) | (with_reducible show wpAny _ _ (eval (PySem.Expr.IfExp _ _ _ _) _) _ _ _))); first | (k_unfold; (try dsimp only)) | (k_end; wrow_close) | ((with_reducible show wpAny _ _ (subscriptTail _ _ (Value.ref _) (Value.int _ _)) _ _ _); refine' item_tupleT ?gt ?ga ?gb ?gc ?gd ?_; (case gt => exact News.isTup (by k_asm) (by k_mem)); (case ga => decide); (case gb => decide); (case gc => first | exact seqIx0 _ | exact seqIx1 _); (case gd => rfl)) | ((with_reducible show wpAny _ _ (call (Value.builtin "str.join") _) _ _ _); (refine' my_join ?gN ?gm ?ge ?gy ?gk ?gx ?gz ?_); (case gN => k_asm); (case gm => k_mem); (case ge => with_reducible assumption); (case gy => with_reducible assumption); (case gk => with_reducible assumption); (case gx => omega); (case gz => with_reducible assumption); intro _ _ _ _) | ((with_reducible show wpAny _ _ (call (Value.builtin "str.split") _) _ _ _); (refine' KSpl.split1 ?gF ?gN ?gy ?_ ?gz); (case gF => k_asm); (case gN => k_asm); (case gy => exact len_ne0 (by with_reducible assumption)); (case gz => rw [sizeLine_eq]; omega); intro _ _ _ _ _ _ _ _; walk_at "MINE ltI") | ((with_reducible show wpAny _ _ (subscriptTail _ (PySem.Expr.Slice (some _) none none _) (Value.ref _) (Value.ref _)) _ _ _); (refine' my_tupfrom (a := 2) ?gF ?gN ?gt ?g1 ?ga ?_ ?gs ?gg ?gz); (case gF => k_asm); (case gN => k_asm); (case gt => k_mem); (case g1 => decide); (case ga => exact Nat.le_add_left 2 _); (case gs => with_unfolding_all rfl); (case gg => (intro _; with_unfolding_all rfl)); (case gz => with_reducible assumption); intro _ _ _ N'; walk_at "MINE ltI"; (try simp only [List.drop_succ_cons, List.drop_zero] at N')) | ((with_reducible show wpAny _ _ (eval (PySem.Expr.Name _ _) (envOf _ _ _ _ _)) _ _ _); k_dflt (refine' nameX_L ?F ?v ?_ ?a ?b; (case F => k_asm); (case a => rfl); (case b => rfl); (case v => rfl); k_whole)) | ((with_reducible show wpAny _ _ (storeName _ _ _) _ _ _); k_dflt (refine' storeX_L ?F ?N ?_ ?a ?b; (case F => k_asm); (case N => k_asm); (case a => rfl); (case b => rfl); k_whole; intro _ _ _; (try k_sweep))) | walk1 | (dsimp only; walk1) | (leave1; walk_say "STEP leave1"; try dsimp only)))
      refine hU (by k_asm) (by k_asm) ((_, ({ cls := .type "tuple", data := .seq (flatP r).toArray } : Obj)) :: news) (by (repeat' first | exact List.forall_mem_nil _ | refine FMC.all ⟨by k_mem, ?_⟩ | (intro p9 hp9; (repeat' first | assumption | refine List.Mem.tail _ ?_)))) ⟨r.length, hn ▸ Nat.lt_succ_self _, fun _ k => k r _ _ _ rfl (Nat.le_of_succ_le hpl) rfl rfl (o5 _ (by assumption)) ((congrArg (repF r) (by assumption)).trans hR) (fun z hz => Nat.ne_of_lt (allLt_mem (by assumption) z hz))⟩
theorem repGW {w : World} {news : Led} (q : RPr) (r : List RPr) (x : PySem.Str) (hx : RepOk (q :: r) x) (hl : (q :: r).length ≤ 40) (tx : Tok) :
   CW K02 P02 w H02 21 30 300 news (.str x tx :: flatP (q :: r)) (fun G => ∀ y t, (y.cps.toList = repF (q :: r) x.cps.toList) → G (.str y t) (news)) :=
  CS.toW (@repG w news q r x hx hl tx) (fun v nw G hR hG => by
    obtain ⟨y, t, rfl, rfl, r09⟩ := hR
    exact hG y t r09)
set_option compiler.extract_closed false
set_option maxRecDepth 100000 in
set_option maxHeartbeats 4000000 in
theorem hsvT {w : World} {news : Led} (k : Nat) (hk : k < 3) (x : UInt64) (hx : x = hue (2 * k)) (t1 t2 t3 : Tok) :
   CT K02 P02 w H02 77 1 8 news [.float x t1, .float f1 t2, .float f1 t3] (fun lo G => ∀ hi D u1 u2 u3, lo ≤ hi → (u1 = t3 ∨ lo ≤ u1 ∧ u1 < hi) → (u2 = t3 ∨ lo ≤ u2 ∧ u2 < hi) → (u3 = t3 ∨ lo ≤ u3 ∧ u3 < hi) → (∀ q ∈ news, q.1 < D) → G hi (.ref D) ((D, tup [.float (rgbOf (2 * k)).1 u1, .float (rgbOf (2 * k)).2.1 u2, .float (rgbOf (2 * k)).2.2 u3]) :: news)) := by
  have hlaw : (fun (_ : OpenLaw) (_ : Params → Frag) => True) Challenge.rw_pg0168_02 hdA.heap_1_1 := by k_fill; exact True.intro
  clear hlaw
  intro p loose mean mg mb dp un gd cn cs L a ccd cl outer A₀ base h₀ m s Q E B F X N T hH hcs hdp hun hret
  obtain ⟨ck, cnm, cg, cc, cm⟩ := cs
  obtain rfl : ck = .function := hcs
  obtain ⟨hH1, hH2⟩ := hH
  replace X : (hdA.heap_1_1 w.params).In h₀ := X
  subst hx
  have hk2 : 2 * k < 6 := by omega
  refine wpAny_call ?_
  k_dflt k_enter
  (with_reducible rename Fr _ _ _ _ => lF0)
  refine frGen3 lF0 (a := PySem.Str.ofString "h") (b := PySem.Str.ofString "s") (c := PySem.Str.ofString "v") (by with_unfolding_all rfl) (by with_unfolding_all rfl) (by with_unfolding_all rfl) ?_
  clear lF0
  intro m0 lF0
  (repeat' ((fail_if_success (with_reducible show wpAny _ _ (compareOp .Eq (Value.int _ _) (Value.int _ _)) _ _ _)); first | (k_unfold; (try dsimp only)) | ((with_reducible show wpAny _ _ (execs (_ :: _) _) _ _ _); (with_reducible refine wpAny_execs_cons ?_); try dsimp only; trace "L:D02b:0:xc") | ((with_reducible show wpAny _ _ (execs [] _) _ _ _); refine wpAny_execs_nil ?_; try dsimp only; trace "L:D02b:0:xn") | ((with_reducible show wpAny _ _ (binaryOp .Sub (Value.float _ _) (Value.int _ _)) _ _ _); (refine cl_subfi (inf_k (by with_reducible assumption)) ?_); trace "L:D02b:0:subfik") | ((with_reducible show wpAny _ _ (call (Value.builtin "max") [(Value.float _ _), (Value.float _ _), (Value.float _ _)]) _ _ _); (refine' maxRgb ?gk ?hh ?F ?N ?_; (case gk => with_reducible assumption); (case hh => rfl); (case F => k_asm); (case N => k_asm); intro _ _ _ _ _); trace "L:D02b:0:maxY") | ((with_reducible show wpAny _ _ (call (Value.builtin "min") [(Value.float _ _), (Value.float _ _), (Value.float _ _)]) _ _ _); (refine' minRgb ?gk ?hh ?F ?N ?_; (case gk => with_reducible assumption); (case hh => rfl); (case F => k_asm); (case N => k_asm); intro _ _ _ _ _); trace "L:D02b:0:minY") | ((with_reducible show wpAny _ _ (call (Value.builtin "max") [(Value.int _ _), (Value.int _ _), (Value.int _ _)]) _ _ _); (first | (refine' max3 0 ?hh ?F ?N ?hr ?_; (case hr => decide)) | (refine' max3 1 ?hh ?F ?N ?hr ?_; (case hr => decide))); (case hh => rfl); (case F => k_asm); (case N => k_asm); intro _ _ _ _ _; trace "L:D02b:0:max") | ((with_reducible show wpAny _ _ (call (Value.builtin "min") [(Value.int _ _), (Value.int _ _), (Value.int _ _)]) _ _ _); (first | (refine' min3 0 ?hh ?F ?N ?hr ?_; (case hr => decide)) | (refine' min3 1 ?hh ?F ?N ?hr ?_; (case hr => decide))); (case hh => rfl); (case F => k_asm); (case N => k_asm); intro _ _ _ _ _; trace "L:D02b:0:min") | (with_reducible refine r_upper ?_; trace "L:D02b:0:upper") | (with_reducible refine r_midh ?_; trace "L:D02b:0:midh") | (with_reducible refine r_xor ?_; trace "L:D02b:0:xor") | ((with_reducible show wpAny _ _ (binaryOp .Mult (Value.int _ _) (Value.int _ _)) _ _ _); with_reducible refine' r_shift ?kk ?_; (case kk => omega); trace "L:D02b:0:shift") | ((with_reducible show wpAny _ _ (binaryOp .Mult (Value.int _ _) (Value.int _ _)) _ _ _); refine mul_int ?_ (mulok (by with_reducible assumption)); trace "L:D02b:0:mulok") | ((with_reducible show wpAny _ _ (binaryOp .LShift (Value.int _ _) (Value.int _ _)) _ _ _); with_reducible refine' r_shl ?k1 ?k2 ?_; (case k1 => first | with_reducible assumption | exact div_le_80 (by with_reducible assumption)); (case k2 => first | omega | exact e_ok (by omega) (by omega)); trace "L:D02b:0:shl") | ((with_reducible show wpAny _ _ (binaryOp .Div (Value.int _ _) (Value.int _ _)) _ _ _); refine cl_divii (by decide) (by decide +kernel) ?_; trace "L:D02b:0:divii") | ((with_reducible show wpAny _ _ (binaryOp .Div (Value.int _ _) (Value.int _ _)) _ _ _); (refine' my_div6 ?hX9 ?hk9 ?_); (case hX9 => with_reducible assumption); (case hk9 => with_reducible assumption); trace "L:D02b:0:div6") | ((with_reducible show wpAny _ _ (binaryOp .Div (Value.float _ _) (Value.float _ _)) _ _ _); refine cl_divff (by decide +kernel) ?_; trace "L:D02b:0:divff") | ((with_reducible show wpAny _ _ (binaryOp .Mod (Value.float _ _) (Value.float _ _)) _ _ _); refine cl_modff (by decide +kernel) ?_; trace "L:D02b:0:modff") | ((with_reducible show wpAny _ _ (binaryOp .Sub (Value.float _ _) (Value.int _ _)) _ _ _); refine cl_subfi (by decide +kernel) ?_; trace "L:D02b:0:subfi") | ((with_reducible show wpAny _ _ (binaryOp .Div (Value.float _ _) (Value.int _ _)) _ _ _); refine cl_divfi (by decide +kernel) (by decide +kernel) ?_; trace "L:D02b:0:divfi") | ((with_reducible show wpAny _ _ (truthy (Value.ref _)) _ _ _); (refine' kgr_truthy (lo := W.listOf (List.toArray _) _) ?gN ?gm ?gc ?gd ?gf ?_); (case gN => k_asm); (case gm => k_mem); (case gc => rfl); (case gd => rfl); (case gf => omega); trace "L:D02b:0:truthy") | ((with_reducible show wpAny _ _ (call (Value.builtin "len") [(Value.ref _)]) _ _ _); (refine' my_len ?gN ?gm ?gl ?gf ?_); (case gN => k_asm); (case gm => k_mem); (case gl => with_reducible assumption); (case gf => omega); intro _; trace "L:D02b:0:len") | ((with_reducible show wpAny _ _ (call (Value.builtin "len") [(Value.str _ _)]) _ _ _); refine len_str (by omega) ?_; trace "L:D02b:0:lens") | ((with_reducible show ite _ _ _); refine ite_pos (by decide +kernel) ?_; trace "L:D02b:0:itepd") | ((with_reducible show ite _ _ _); refine ite_neg (by decide +kernel) ?_; trace "L:D02b:0:itend") | ((with_reducible show ite _ _ _); refine ite_pos (by first | omega | (simp only [beq_iff_eq, bne_iff_ne, decide_eq_true_eq, Int.not_lt, Int.not_le]; omega)) ?_; trace "L:D02b:0:itep") | ((with_reducible show ite _ _ _); refine ite_neg (by first | omega | (simp only [beq_iff_eq, bne_iff_ne, decide_eq_true_eq, Int.not_lt, Int.not_le]; omega)) ?_; trace "L:D02b:0:iten") | ((with_reducible show wpAny _ _ (call (Value.builtin "divmod") [(Value.int _ _), (Value.int _ _)]) _ _ _); (with_reducible refine' my_divmod ?gF ?gN ?gb ?g9 ?_); (case gF => k_asm); (case gN => k_asm); (case gb => omega); (case g9 => omega); intro _ _ _ _ _ _ _; walk_at "MINE ltI"; trace "L:D02b:0:divmod") | ((with_reducible show wpAny _ _ (call (Value.builtin "list.reverse") _) _ _ _); (k_dflt (refine' my_reverse ?gF ?gN ?gU ?gz ?_; (case gF => k_asm); (case gN => k_asm); (case gU => k_upd); (case gz => omega)); intro _ _ _); trace "L:D02b:0:rev") | ((with_reducible show wpAny _ _ (call (Value.type "int") [(Value.float _ _)]) _ _ _); refine my_int_hue (k := _) ?hk9 ?_; (case hk9 => first | with_reducible assumption | decide); trace "L:D02b:0:inthue") | ((with_reducible show wpAny _ _ (call (Value.type "int") [(Value.float _ _)]) _ _ _); refine' my_intbit ?gB9 ?_; (case gB9 => with_reducible assumption); trace "L:D02b:0:intbit") | ((with_reducible show wpAny _ _ (callWith _ (Value.ref _) _ _ _) _ _ _); (k_here; (k_dflt (refine' callWith_K ?k1 ?k2 ?_; (case k1 => k_asm); (case k2 => k_is); k_whole))); trace "L:D02b:0:cw") | ((with_reducible show wpAny _ _ (newTuple _) _ _ _); (k_dflt (refine' kup_newTuple ?gF9 ?gN9 ?_ ?gz9; (case gF9 => k_asm); (case gN9 => k_asm); (case gz9 => exact Nat.le_of_ble_eq_true rfl)); intro _ _ _ _; walk_at "MINE ltI"); trace "L:D02b:0:tup") | ((with_reducible show wpAny _ _ (eval (PySem.Expr.Dict _ _ _) _) _ _ _); ((k_dflt (refine' kdn_str ?q ?F ?N ?b ?a ?l ?e ?n ?_; (case q => rfl); (case F => k_asm); (case N => k_asm); (case b => exact Top.nolimit (by k_asm)); (case a => rfl); (case l => rfl); (case e => exact List.cons_ne_nil _ _); (case n => exact Nat.le_of_ble_eq_true rfl))); intro _ _ _ _ _ l1 _ _; k_lt l1; revert l1; intro _); trace "L:D02b:0:dict") | ((with_reducible show wpAny _ _ (compareOp .Eq (Value.str _ _) (Value.str _ _)) _ _ _); refine my_eq1 ?_; trace "L:D02b:0:eq1") | ((with_reducible show wpAny _ _ (eval (PySem.Expr.Name _ _) (compEnvC _ _ _ _)) _ _ _); k_dflt (refine LCgL.ld_own (by k_asm) (by k_mem) (by assumption) (by assumption) ?_); trace "L:D02b:0:own") | ((with_reducible show wpAny _ _ (eval (PySem.Expr.Name _ _) (envOfC _ _ _ _ _)) _ _ _); k_dflt (refine' nameX_L ?F ?v ?_ ?a ?b; (case F => k_asm); (case a => rfl); (case b => rfl); (case v => rfl); k_whole); trace "L:D02b:0:nmC") | ((with_reducible show wpAny _ _ (eval (PySem.Expr.Name _ _) (envOf _ _ _ _ _)) _ _ _); k_dflt (refine' nameX_L ?F ?v ?_ ?a ?b; (case F => k_asm); (case a => rfl); (case b => rfl); (case v => rfl); k_whole); trace "L:D02b:0:nm") | ((with_reducible show wpAny _ _ (storeName _ _ _) _ _ _); k_dflt (refine' storeX_L ?F ?N ?_ ?a ?b; (case F => k_asm); (case N => k_asm); (case a => rfl); (case b => rfl); k_whole; intro _ _ _; (try k_sweep)); trace "L:D02b:0:st") | walk1 | (dsimp only; walk1)))
  have hk' : k = 0 ∨ k = 1 ∨ k = 2 := by omega
  rcases hk' with rfl | rfl | rfl
  all_goals
    (repeat' (first | (k_unfold; (try dsimp only)) | (k_end; wrow_close) | ((with_reducible show wpAny _ _ (execs (_ :: _) _) _ _ _); (with_reducible refine wpAny_execs_cons ?_); try dsimp only; trace "L:D02b:1:xc") | ((with_reducible show wpAny _ _ (execs [] _) _ _ _); refine wpAny_execs_nil ?_; try dsimp only; trace "L:D02b:1:xn") | ((with_reducible show wpAny _ _ (binaryOp .Sub (Value.float _ _) (Value.int _ _)) _ _ _); (refine cl_subfi (inf_k (by with_reducible assumption)) ?_); trace "L:D02b:1:subfik") | ((with_reducible show wpAny _ _ (call (Value.builtin "max") [(Value.float _ _), (Value.float _ _), (Value.float _ _)]) _ _ _); (refine' maxRgb ?gk ?hh ?F ?N ?_; (case gk => with_reducible assumption); (case hh => rfl); (case F => k_asm); (case N => k_asm); intro _ _ _ _ _); trace "L:D02b:1:maxY") | ((with_reducible show wpAny _ _ (call (Value.builtin "min") [(Value.float _ _), (Value.float _ _), (Value.float _ _)]) _ _ _); (refine' minRgb ?gk ?hh ?F ?N ?_; (case gk => with_reducible assumption); (case hh => rfl); (case F => k_asm); (case N => k_asm); intro _ _ _ _ _); trace "L:D02b:1:minY") | ((with_reducible show wpAny _ _ (call (Value.builtin "max") [(Value.int _ _), (Value.int _ _), (Value.int _ _)]) _ _ _); (first | (refine' max3 0 ?hh ?F ?N ?hr ?_; (case hr => decide)) | (refine' max3 1 ?hh ?F ?N ?hr ?_; (case hr => decide))); (case hh => rfl); (case F => k_asm); (case N => k_asm); intro _ _ _ _ _; trace "L:D02b:1:max") | ((with_reducible show wpAny _ _ (call (Value.builtin "min") [(Value.int _ _), (Value.int _ _), (Value.int _ _)]) _ _ _); (first | (refine' min3 0 ?hh ?F ?N ?hr ?_; (case hr => decide)) | (refine' min3 1 ?hh ?F ?N ?hr ?_; (case hr => decide))); (case hh => rfl); (case F => k_asm); (case N => k_asm); intro _ _ _ _ _; trace "L:D02b:1:min") | (with_reducible refine r_upper ?_; trace "L:D02b:1:upper") | (with_reducible refine r_midh ?_; trace "L:D02b:1:midh") | (with_reducible refine r_xor ?_; trace "L:D02b:1:xor") | ((with_reducible show wpAny _ _ (binaryOp .Mult (Value.int _ _) (Value.int _ _)) _ _ _); with_reducible refine' r_shift ?kk ?_; (case kk => omega); trace "L:D02b:1:shift") | ((with_reducible show wpAny _ _ (binaryOp .Mult (Value.int _ _) (Value.int _ _)) _ _ _); refine mul_int ?_ (mulok (by with_reducible assumption)); trace "L:D02b:1:mulok") | ((with_reducible show wpAny _ _ (binaryOp .LShift (Value.int _ _) (Value.int _ _)) _ _ _); with_reducible refine' r_shl ?k1 ?k2 ?_; (case k1 => first | with_reducible assumption | exact div_le_80 (by with_reducible assumption)); (case k2 => first | omega | exact e_ok (by omega) (by omega)); trace "L:D02b:1:shl") | ((with_reducible show wpAny _ _ (binaryOp .Div (Value.int _ _) (Value.int _ _)) _ _ _); refine cl_divii (by decide) (by decide +kernel) ?_; trace "L:D02b:1:divii") | ((with_reducible show wpAny _ _ (binaryOp .Div (Value.int _ _) (Value.int _ _)) _ _ _); (refine' my_div6 ?hX9 ?hk9 ?_); (case hX9 => with_reducible assumption); (case hk9 => with_reducible assumption); trace "L:D02b:1:div6") | ((with_reducible show wpAny _ _ (binaryOp .Div (Value.float _ _) (Value.float _ _)) _ _ _); refine cl_divff (by decide +kernel) ?_; trace "L:D02b:1:divff") | ((with_reducible show wpAny _ _ (binaryOp .Mod (Value.float _ _) (Value.float _ _)) _ _ _); refine cl_modff (by decide +kernel) ?_; trace "L:D02b:1:modff") | ((with_reducible show wpAny _ _ (binaryOp .Sub (Value.float _ _) (Value.int _ _)) _ _ _); refine cl_subfi (by decide +kernel) ?_; trace "L:D02b:1:subfi") | ((with_reducible show wpAny _ _ (binaryOp .Div (Value.float _ _) (Value.int _ _)) _ _ _); refine cl_divfi (by decide +kernel) (by decide +kernel) ?_; trace "L:D02b:1:divfi") | ((with_reducible show wpAny _ _ (truthy (Value.ref _)) _ _ _); (refine' kgr_truthy (lo := W.listOf (List.toArray _) _) ?gN ?gm ?gc ?gd ?gf ?_); (case gN => k_asm); (case gm => k_mem); (case gc => rfl); (case gd => rfl); (case gf => omega); trace "L:D02b:1:truthy") | ((with_reducible show wpAny _ _ (call (Value.builtin "len") [(Value.ref _)]) _ _ _); (refine' my_len ?gN ?gm ?gl ?gf ?_); (case gN => k_asm); (case gm => k_mem); (case gl => with_reducible assumption); (case gf => omega); intro _; trace "L:D02b:1:len") | ((with_reducible show wpAny _ _ (call (Value.builtin "len") [(Value.str _ _)]) _ _ _); refine len_str (by omega) ?_; trace "L:D02b:1:lens") | ((with_reducible show ite _ _ _); refine ite_pos (by decide +kernel) ?_; trace "L:D02b:1:itepd") | ((with_reducible show ite _ _ _); refine ite_neg (by decide +kernel) ?_; trace "L:D02b:1:itend") | ((with_reducible show ite _ _ _); refine ite_pos (by first | omega | (simp only [beq_iff_eq, bne_iff_ne, decide_eq_true_eq, Int.not_lt, Int.not_le]; omega)) ?_; trace "L:D02b:1:itep") | ((with_reducible show ite _ _ _); refine ite_neg (by first | omega | (simp only [beq_iff_eq, bne_iff_ne, decide_eq_true_eq, Int.not_lt, Int.not_le]; omega)) ?_; trace "L:D02b:1:iten") | ((with_reducible show wpAny _ _ (call (Value.builtin "divmod") [(Value.int _ _), (Value.int _ _)]) _ _ _); (with_reducible refine' my_divmod ?gF ?gN ?gb ?g9 ?_); (case gF => k_asm); (case gN => k_asm); (case gb => omega); (case g9 => omega); intro _ _ _ _ _ _ _; walk_at "MINE ltI"; trace "L:D02b:1:divmod") | ((with_reducible show wpAny _ _ (call (Value.builtin "list.reverse") _) _ _ _); (k_dflt (refine' my_reverse ?gF ?gN ?gU ?gz ?_; (case gF => k_asm); (case gN => k_asm); (case gU => k_upd); (case gz => omega)); intro _ _ _); trace "L:D02b:1:rev") | ((with_reducible show wpAny _ _ (call (Value.type "int") [(Value.float _ _)]) _ _ _); refine my_int_hue (k := _) ?hk9 ?_; (case hk9 => first | with_reducible assumption | decide); trace "L:D02b:1:inthue") | ((with_reducible show wpAny _ _ (call (Value.type "int") [(Value.float _ _)]) _ _ _); refine' my_intbit ?gB9 ?_; (case gB9 => with_reducible assumption); trace "L:D02b:1:intbit") | ((with_reducible show wpAny _ _ (callWith _ (Value.ref _) _ _ _) _ _ _); (k_here; (k_dflt (refine' callWith_K ?k1 ?k2 ?_; (case k1 => k_asm); (case k2 => k_is); k_whole))); trace "L:D02b:1:cw") | ((with_reducible show wpAny _ _ (newTuple _) _ _ _); (k_dflt (refine' kup_newTuple ?gF9 ?gN9 ?_ ?gz9; (case gF9 => k_asm); (case gN9 => k_asm); (case gz9 => exact Nat.le_of_ble_eq_true rfl)); intro _ _ _ _; walk_at "MINE ltI"); trace "L:D02b:1:tup") | ((with_reducible show wpAny _ _ (eval (PySem.Expr.Dict _ _ _) _) _ _ _); ((k_dflt (refine' kdn_str ?q ?F ?N ?b ?a ?l ?e ?n ?_; (case q => rfl); (case F => k_asm); (case N => k_asm); (case b => exact Top.nolimit (by k_asm)); (case a => rfl); (case l => rfl); (case e => exact List.cons_ne_nil _ _); (case n => exact Nat.le_of_ble_eq_true rfl))); intro _ _ _ _ _ l1 _ _; k_lt l1; revert l1; intro _); trace "L:D02b:1:dict") | ((with_reducible show wpAny _ _ (compareOp .Eq (Value.str _ _) (Value.str _ _)) _ _ _); refine my_eq1 ?_; trace "L:D02b:1:eq1") | ((with_reducible show wpAny _ _ (eval (PySem.Expr.Name _ _) (compEnvC _ _ _ _)) _ _ _); k_dflt (refine LCgL.ld_own (by k_asm) (by k_mem) (by assumption) (by assumption) ?_); trace "L:D02b:1:own") | ((with_reducible show wpAny _ _ (eval (PySem.Expr.Name _ _) (envOfC _ _ _ _ _)) _ _ _); k_dflt (refine' nameX_L ?F ?v ?_ ?a ?b; (case F => k_asm); (case a => rfl); (case b => rfl); (case v => rfl); k_whole); trace "L:D02b:1:nmC") | ((with_reducible show wpAny _ _ (eval (PySem.Expr.Name _ _) (envOf _ _ _ _ _)) _ _ _); k_dflt (refine' nameX_L ?F ?v ?_ ?a ?b; (case F => k_asm); (case a => rfl); (case b => rfl); (case v => rfl); k_whole); trace "L:D02b:1:nm") | ((with_reducible show wpAny _ _ (storeName _ _ _) _ _ _); k_dflt (refine' storeX_L ?F ?N ?_ ?a ?b; (case F => k_asm); (case N => k_asm); (case a => rfl); (case b => rfl); k_whole; intro _ _ _; (try k_sweep)); trace "L:D02b:1:st") | walk1 | (dsimp only; walk1) | (leave1; walk_say "STEP leave1"; try dsimp only)))
    (with_reducible rename News _ _ _ _ => zN)
    exact hret _ _ _ _ _ (by (repeat' first | exact Nat.le_refl _ | apply Nat.le_succ_of_le)) (by first | exact .inl rfl | exact .inr ⟨by (repeat' first | exact Nat.le_refl _ | apply Nat.le_succ_of_le), by (repeat' first | exact Nat.le_refl _ | apply Nat.le_succ_of_le)⟩) (by first | exact .inl rfl | exact .inr ⟨by (repeat' first | exact Nat.le_refl _ | apply Nat.le_succ_of_le), by (repeat' first | exact Nat.le_refl _ | apply Nat.le_succ_of_le)⟩) (by first | exact .inl rfl | exact .inr ⟨by (repeat' first | exact Nat.le_refl _ | apply Nat.le_succ_of_le), by (repeat' first | exact Nat.le_refl _ | apply Nat.le_succ_of_le)⟩) (by (repeat' ((with_reducible rename AllLt _ _ => z1); first | exact all_lt z1 (by omega) | clear z1))) _ (by assumption) (news3f zN (by decide +kernel) (by decide +kernel) (by decide +kernel))
set_option maxRecDepth 100000 in
set_option maxHeartbeats 4000000 in
theorem rgbC {w : World} {news : Led} (k : Nat) (hk : k < 6) (t1 t2 t3 : Tok) :
   CW K02 P02 w H02 70 1 8 news [.float (rgbOf k).1 t1, .float (rgbOf k).2.1 t2, .float (rgbOf k).2.2 t3] (fun G => ∀ D u1 u2 u3, (∀ q ∈ news, q.1 < D) → G (.ref D) ((D, tup [.float (mixH k) u1, .float f1 u2, .float f1 u3]) :: news)) := by
  have hlaw : (fun (_ : OpenLaw) (_ : Params → Frag) => True) Challenge.rw_pg0168_02 hdA.heap_1_1 := by k_fill; exact True.intro
  clear hlaw
  intro p loose mean mg mb dp un gd cn cs L a ccd cl outer A₀ base h₀ m s Q E B F X N T hH hcs hdp hun hret
  obtain ⟨ck, cnm, cg, cc, cm⟩ := cs
  obtain rfl : ck = .function := hcs
  obtain ⟨hH1, hH2⟩ := hH
  replace X : (hdA.heap_1_1 w.params).In h₀ := X
  refine wpAny_call ?_
  k_dflt k_enter
  (with_reducible rename Fr _ _ _ _ => lF0)
  refine frGen3 lF0 (a := PySem.Str.ofString "r") (b := PySem.Str.ofString "g") (c := PySem.Str.ofString "b") (by with_unfolding_all rfl) (by with_unfolding_all rfl) (by with_unfolding_all rfl) ?_
  clear lF0
  intro m0 lF0
  (repeat' ((fail_if_success (with_reducible show wpAny _ _ (binaryOp .Sub _ _) _ _ _)); first | (k_unfold; (try dsimp only)) | (k_end; wrow_close) | ((with_reducible show wpAny _ _ (execs (_ :: _) _) _ _ _); (with_reducible refine wpAny_execs_cons ?_); try dsimp only; trace "L:D02b:2:xc") | ((with_reducible show wpAny _ _ (execs [] _) _ _ _); refine wpAny_execs_nil ?_; try dsimp only; trace "L:D02b:2:xn") | ((with_reducible show wpAny _ _ (binaryOp .Sub (Value.float _ _) (Value.int _ _)) _ _ _); (refine cl_subfi (inf_k (by with_reducible assumption)) ?_); trace "L:D02b:2:subfik") | ((with_reducible show wpAny _ _ (call (Value.builtin "max") [(Value.float _ _), (Value.float _ _), (Value.float _ _)]) _ _ _); (refine' maxRgb ?gk ?hh ?F ?N ?_; (case gk => with_reducible assumption); (case hh => rfl); (case F => k_asm); (case N => k_asm); intro _ _ _ _ _); trace "L:D02b:2:maxY") | ((with_reducible show wpAny _ _ (call (Value.builtin "min") [(Value.float _ _), (Value.float _ _), (Value.float _ _)]) _ _ _); (refine' minRgb ?gk ?hh ?F ?N ?_; (case gk => with_reducible assumption); (case hh => rfl); (case F => k_asm); (case N => k_asm); intro _ _ _ _ _); trace "L:D02b:2:minY") | ((with_reducible show wpAny _ _ (call (Value.builtin "max") [(Value.int _ _), (Value.int _ _), (Value.int _ _)]) _ _ _); (first | (refine' max3 0 ?hh ?F ?N ?hr ?_; (case hr => decide)) | (refine' max3 1 ?hh ?F ?N ?hr ?_; (case hr => decide))); (case hh => rfl); (case F => k_asm); (case N => k_asm); intro _ _ _ _ _; trace "L:D02b:2:max") | ((with_reducible show wpAny _ _ (call (Value.builtin "min") [(Value.int _ _), (Value.int _ _), (Value.int _ _)]) _ _ _); (first | (refine' min3 0 ?hh ?F ?N ?hr ?_; (case hr => decide)) | (refine' min3 1 ?hh ?F ?N ?hr ?_; (case hr => decide))); (case hh => rfl); (case F => k_asm); (case N => k_asm); intro _ _ _ _ _; trace "L:D02b:2:min") | (with_reducible refine r_upper ?_; trace "L:D02b:2:upper") | (with_reducible refine r_midh ?_; trace "L:D02b:2:midh") | (with_reducible refine r_xor ?_; trace "L:D02b:2:xor") | ((with_reducible show wpAny _ _ (binaryOp .Mult (Value.int _ _) (Value.int _ _)) _ _ _); with_reducible refine' r_shift ?kk ?_; (case kk => omega); trace "L:D02b:2:shift") | ((with_reducible show wpAny _ _ (binaryOp .Mult (Value.int _ _) (Value.int _ _)) _ _ _); refine mul_int ?_ (mulok (by with_reducible assumption)); trace "L:D02b:2:mulok") | ((with_reducible show wpAny _ _ (binaryOp .LShift (Value.int _ _) (Value.int _ _)) _ _ _); with_reducible refine' r_shl ?k1 ?k2 ?_; (case k1 => first | with_reducible assumption | exact div_le_80 (by with_reducible assumption)); (case k2 => first | omega | exact e_ok (by omega) (by omega)); trace "L:D02b:2:shl") | ((with_reducible show wpAny _ _ (binaryOp .Div (Value.int _ _) (Value.int _ _)) _ _ _); refine cl_divii (by decide) (by decide +kernel) ?_; trace "L:D02b:2:divii") | ((with_reducible show wpAny _ _ (binaryOp .Div (Value.int _ _) (Value.int _ _)) _ _ _); (refine' my_div6 ?hX9 ?hk9 ?_); (case hX9 => with_reducible assumption); (case hk9 => with_reducible assumption); trace "L:D02b:2:div6") | ((with_reducible show wpAny _ _ (binaryOp .Div (Value.float _ _) (Value.float _ _)) _ _ _); refine cl_divff (by decide +kernel) ?_; trace "L:D02b:2:divff") | ((with_reducible show wpAny _ _ (binaryOp .Mod (Value.float _ _) (Value.float _ _)) _ _ _); refine cl_modff (by decide +kernel) ?_; trace "L:D02b:2:modff") | ((with_reducible show wpAny _ _ (binaryOp .Sub (Value.float _ _) (Value.int _ _)) _ _ _); refine cl_subfi (by decide +kernel) ?_; trace "L:D02b:2:subfi") | ((with_reducible show wpAny _ _ (binaryOp .Div (Value.float _ _) (Value.int _ _)) _ _ _); refine cl_divfi (by decide +kernel) (by decide +kernel) ?_; trace "L:D02b:2:divfi") | ((with_reducible show wpAny _ _ (truthy (Value.ref _)) _ _ _); (refine' kgr_truthy (lo := W.listOf (List.toArray _) _) ?gN ?gm ?gc ?gd ?gf ?_); (case gN => k_asm); (case gm => k_mem); (case gc => rfl); (case gd => rfl); (case gf => omega); trace "L:D02b:2:truthy") | ((with_reducible show wpAny _ _ (call (Value.builtin "len") [(Value.ref _)]) _ _ _); (refine' my_len ?gN ?gm ?gl ?gf ?_); (case gN => k_asm); (case gm => k_mem); (case gl => with_reducible assumption); (case gf => omega); intro _; trace "L:D02b:2:len") | ((with_reducible show wpAny _ _ (call (Value.builtin "len") [(Value.str _ _)]) _ _ _); refine len_str (by omega) ?_; trace "L:D02b:2:lens") | ((with_reducible show ite _ _ _); refine ite_pos (by decide +kernel) ?_; trace "L:D02b:2:itepd") | ((with_reducible show ite _ _ _); refine ite_neg (by decide +kernel) ?_; trace "L:D02b:2:itend") | ((with_reducible show ite _ _ _); refine ite_pos (by first | omega | (simp only [beq_iff_eq, bne_iff_ne, decide_eq_true_eq, Int.not_lt, Int.not_le]; omega)) ?_; trace "L:D02b:2:itep") | ((with_reducible show ite _ _ _); refine ite_neg (by first | omega | (simp only [beq_iff_eq, bne_iff_ne, decide_eq_true_eq, Int.not_lt, Int.not_le]; omega)) ?_; trace "L:D02b:2:iten") | ((with_reducible show wpAny _ _ (call (Value.builtin "divmod") [(Value.int _ _), (Value.int _ _)]) _ _ _); (with_reducible refine' my_divmod ?gF ?gN ?gb ?g9 ?_); (case gF => k_asm); (case gN => k_asm); (case gb => omega); (case g9 => omega); intro _ _ _ _ _ _ _; walk_at "MINE ltI"; trace "L:D02b:2:divmod") | ((with_reducible show wpAny _ _ (call (Value.builtin "list.reverse") _) _ _ _); (k_dflt (refine' my_reverse ?gF ?gN ?gU ?gz ?_; (case gF => k_asm); (case gN => k_asm); (case gU => k_upd); (case gz => omega)); intro _ _ _); trace "L:D02b:2:rev") | ((with_reducible show wpAny _ _ (call (Value.type "int") [(Value.float _ _)]) _ _ _); refine my_int_hue (k := _) ?hk9 ?_; (case hk9 => first | with_reducible assumption | decide); trace "L:D02b:2:inthue") | ((with_reducible show wpAny _ _ (call (Value.type "int") [(Value.float _ _)]) _ _ _); refine' my_intbit ?gB9 ?_; (case gB9 => with_reducible assumption); trace "L:D02b:2:intbit") | ((with_reducible show wpAny _ _ (callWith _ (Value.ref _) _ _ _) _ _ _); (k_here; (k_dflt (refine' callWith_K ?k1 ?k2 ?_; (case k1 => k_asm); (case k2 => k_is); k_whole))); trace "L:D02b:2:cw") | ((with_reducible show wpAny _ _ (newTuple _) _ _ _); (k_dflt (refine' kup_newTuple ?gF9 ?gN9 ?_ ?gz9; (case gF9 => k_asm); (case gN9 => k_asm); (case gz9 => exact Nat.le_of_ble_eq_true rfl)); intro _ _ _ _; walk_at "MINE ltI"); trace "L:D02b:2:tup") | ((with_reducible show wpAny _ _ (eval (PySem.Expr.Dict _ _ _) _) _ _ _); ((k_dflt (refine' kdn_str ?q ?F ?N ?b ?a ?l ?e ?n ?_; (case q => rfl); (case F => k_asm); (case N => k_asm); (case b => exact Top.nolimit (by k_asm)); (case a => rfl); (case l => rfl); (case e => exact List.cons_ne_nil _ _); (case n => exact Nat.le_of_ble_eq_true rfl))); intro _ _ _ _ _ l1 _ _; k_lt l1; revert l1; intro _); trace "L:D02b:2:dict") | ((with_reducible show wpAny _ _ (compareOp .Eq (Value.str _ _) (Value.str _ _)) _ _ _); refine my_eq1 ?_; trace "L:D02b:2:eq1") | ((with_reducible show wpAny _ _ (eval (PySem.Expr.Name _ _) (compEnvC _ _ _ _)) _ _ _); k_dflt (refine LCgL.ld_own (by k_asm) (by k_mem) (by assumption) (by assumption) ?_); trace "L:D02b:2:own") | ((with_reducible show wpAny _ _ (eval (PySem.Expr.Name _ _) (envOfC _ _ _ _ _)) _ _ _); k_dflt (refine' nameX_L ?F ?v ?_ ?a ?b; (case F => k_asm); (case a => rfl); (case b => rfl); (case v => rfl); k_whole); trace "L:D02b:2:nmC") | ((with_reducible show wpAny _ _ (eval (PySem.Expr.Name _ _) (envOf _ _ _ _ _)) _ _ _); k_dflt (refine' nameX_L ?F ?v ?_ ?a ?b; (case F => k_asm); (case a => rfl); (case b => rfl); (case v => rfl); k_whole); trace "L:D02b:2:nm") | ((with_reducible show wpAny _ _ (storeName _ _ _) _ _ _); k_dflt (refine' storeX_L ?F ?N ?_ ?a ?b; (case F => k_asm); (case N => k_asm); (case a => rfl); (case b => rfl); k_whole; intro _ _ _; (try k_sweep)); trace "L:D02b:2:st") | walk1 | (dsimp only; walk1) | (leave1; walk_say "STEP leave1"; try dsimp only)))
  have hk6 : k = 0 ∨ k = 1 ∨ k = 2 ∨ k = 3 ∨ k = 4 ∨ k = 5 := by omega
  rcases hk6 with rfl | rfl | rfl | rfl | rfl | rfl
  all_goals
    (repeat' (first | (k_unfold; (try dsimp only)) | (k_end; wrow_close) | ((with_reducible show wpAny _ _ (execs (_ :: _) _) _ _ _); (with_reducible refine wpAny_execs_cons ?_); try dsimp only; trace "L:D02b:3:xc") | ((with_reducible show wpAny _ _ (execs [] _) _ _ _); refine wpAny_execs_nil ?_; try dsimp only; trace "L:D02b:3:xn") | ((with_reducible show wpAny _ _ (binaryOp .Sub (Value.float _ _) (Value.int _ _)) _ _ _); (refine cl_subfi (inf_k (by with_reducible assumption)) ?_); trace "L:D02b:3:subfik") | ((with_reducible show wpAny _ _ (call (Value.builtin "max") [(Value.float _ _), (Value.float _ _), (Value.float _ _)]) _ _ _); (refine' maxRgb ?gk ?hh ?F ?N ?_; (case gk => with_reducible assumption); (case hh => rfl); (case F => k_asm); (case N => k_asm); intro _ _ _ _ _); trace "L:D02b:3:maxY") | ((with_reducible show wpAny _ _ (call (Value.builtin "min") [(Value.float _ _), (Value.float _ _), (Value.float _ _)]) _ _ _); (refine' minRgb ?gk ?hh ?F ?N ?_; (case gk => with_reducible assumption); (case hh => rfl); (case F => k_asm); (case N => k_asm); intro _ _ _ _ _); trace "L:D02b:3:minY") | ((with_reducible show wpAny _ _ (call (Value.builtin "max") [(Value.int _ _), (Value.int _ _), (Value.int _ _)]) _ _ _); (first | (refine' max3 0 ?hh ?F ?N ?hr ?_; (case hr => decide)) | (refine' max3 1 ?hh ?F ?N ?hr ?_; (case hr => decide))); (case hh => rfl); (case F => k_asm); (case N => k_asm); intro _ _ _ _ _; trace "L:D02b:3:max") | ((with_reducible show wpAny _ _ (call (Value.builtin "min") [(Value.int _ _), (Value.int _ _), (Value.int _ _)]) _ _ _); (first | (refine' min3 0 ?hh ?F ?N ?hr ?_; (case hr => decide)) | (refine' min3 1 ?hh ?F ?N ?hr ?_; (case hr => decide))); (case hh => rfl); (case F => k_asm); (case N => k_asm); intro _ _ _ _ _; trace "L:D02b:3:min") | (with_reducible refine r_upper ?_; trace "L:D02b:3:upper") | (with_reducible refine r_midh ?_; trace "L:D02b:3:midh") | (with_reducible refine r_xor ?_; trace "L:D02b:3:xor") | ((with_reducible show wpAny _ _ (binaryOp .Mult (Value.int _ _) (Value.int _ _)) _ _ _); with_reducible refine' r_shift ?kk ?_; (case kk => omega); trace "L:D02b:3:shift") | ((with_reducible show wpAny _ _ (binaryOp .Mult (Value.int _ _) (Value.int _ _)) _ _ _); refine mul_int ?_ (mulok (by with_reducible assumption)); trace "L:D02b:3:mulok") | ((with_reducible show wpAny _ _ (binaryOp .LShift (Value.int _ _) (Value.int _ _)) _ _ _); with_reducible refine' r_shl ?k1 ?k2 ?_; (case k1 => first | with_reducible assumption | exact div_le_80 (by with_reducible assumption)); (case k2 => first | omega | exact e_ok (by omega) (by omega)); trace "L:D02b:3:shl") | ((with_reducible show wpAny _ _ (binaryOp .Div (Value.int _ _) (Value.int _ _)) _ _ _); refine cl_divii (by decide) (by decide +kernel) ?_; trace "L:D02b:3:divii") | ((with_reducible show wpAny _ _ (binaryOp .Div (Value.int _ _) (Value.int _ _)) _ _ _); (refine' my_div6 ?hX9 ?hk9 ?_); (case hX9 => with_reducible assumption); (case hk9 => with_reducible assumption); trace "L:D02b:3:div6") | ((with_reducible show wpAny _ _ (binaryOp .Div (Value.float _ _) (Value.float _ _)) _ _ _); refine cl_divff (by decide +kernel) ?_; trace "L:D02b:3:divff") | ((with_reducible show wpAny _ _ (binaryOp .Mod (Value.float _ _) (Value.float _ _)) _ _ _); refine cl_modff (by decide +kernel) ?_; trace "L:D02b:3:modff") | ((with_reducible show wpAny _ _ (binaryOp .Sub (Value.float _ _) (Value.int _ _)) _ _ _); refine cl_subfi (by decide +kernel) ?_; trace "L:D02b:3:subfi") | ((with_reducible show wpAny _ _ (binaryOp .Div (Value.float _ _) (Value.int _ _)) _ _ _); refine cl_divfi (by decide +kernel) (by decide +kernel) ?_; trace "L:D02b:3:divfi") | ((with_reducible show wpAny _ _ (truthy (Value.ref _)) _ _ _); (refine' kgr_truthy (lo := W.listOf (List.toArray _) _) ?gN ?gm ?gc ?gd ?gf ?_); (case gN => k_asm); (case gm => k_mem); (case gc => rfl); (case gd => rfl); (case gf => omega); trace "L:D02b:3:truthy") | ((with_reducible show wpAny _ _ (call (Value.builtin "len") [(Value.ref _)]) _ _ _); (refine' my_len ?gN ?gm ?gl ?gf ?_); (case gN => k_asm); (case gm => k_mem); (case gl => with_reducible assumption); (case gf => omega); intro _; trace "L:D02b:3:len") | ((with_reducible show wpAny _ _ (call (Value.builtin "len") [(Value.str _ _)]) _ _ _); refine len_str (by omega) ?_; trace "L:D02b:3:lens") | ((with_reducible show ite _ _ _); refine ite_pos (by decide +kernel) ?_; trace "L:D02b:3:itepd") | ((with_reducible show ite _ _ _); refine ite_neg (by decide +kernel) ?_; trace "L:D02b:3:itend") | ((with_reducible show ite _ _ _); refine ite_pos (by first | omega | (simp only [beq_iff_eq, bne_iff_ne, decide_eq_true_eq, Int.not_lt, Int.not_le]; omega)) ?_; trace "L:D02b:3:itep") | ((with_reducible show ite _ _ _); refine ite_neg (by first | omega | (simp only [beq_iff_eq, bne_iff_ne, decide_eq_true_eq, Int.not_lt, Int.not_le]; omega)) ?_; trace "L:D02b:3:iten") | ((with_reducible show wpAny _ _ (call (Value.builtin "divmod") [(Value.int _ _), (Value.int _ _)]) _ _ _); (with_reducible refine' my_divmod ?gF ?gN ?gb ?g9 ?_); (case gF => k_asm); (case gN => k_asm); (case gb => omega); (case g9 => omega); intro _ _ _ _ _ _ _; walk_at "MINE ltI"; trace "L:D02b:3:divmod") | ((with_reducible show wpAny _ _ (call (Value.builtin "list.reverse") _) _ _ _); (k_dflt (refine' my_reverse ?gF ?gN ?gU ?gz ?_; (case gF => k_asm); (case gN => k_asm); (case gU => k_upd); (case gz => omega)); intro _ _ _); trace "L:D02b:3:rev") | ((with_reducible show wpAny _ _ (call (Value.type "int") [(Value.float _ _)]) _ _ _); refine my_int_hue (k := _) ?hk9 ?_; (case hk9 => first | with_reducible assumption | decide); trace "L:D02b:3:inthue") | ((with_reducible show wpAny _ _ (call (Value.type "int") [(Value.float _ _)]) _ _ _); refine' my_intbit ?gB9 ?_; (case gB9 => with_reducible assumption); trace "L:D02b:3:intbit") | ((with_reducible show wpAny _ _ (callWith _ (Value.ref _) _ _ _) _ _ _); (k_here; (k_dflt (refine' callWith_K ?k1 ?k2 ?_; (case k1 => k_asm); (case k2 => k_is); k_whole))); trace "L:D02b:3:cw") | ((with_reducible show wpAny _ _ (newTuple _) _ _ _); (k_dflt (refine' kup_newTuple ?gF9 ?gN9 ?_ ?gz9; (case gF9 => k_asm); (case gN9 => k_asm); (case gz9 => exact Nat.le_of_ble_eq_true rfl)); intro _ _ _ _; walk_at "MINE ltI"); trace "L:D02b:3:tup") | ((with_reducible show wpAny _ _ (eval (PySem.Expr.Dict _ _ _) _) _ _ _); ((k_dflt (refine' kdn_str ?q ?F ?N ?b ?a ?l ?e ?n ?_; (case q => rfl); (case F => k_asm); (case N => k_asm); (case b => exact Top.nolimit (by k_asm)); (case a => rfl); (case l => rfl); (case e => exact List.cons_ne_nil _ _); (case n => exact Nat.le_of_ble_eq_true rfl))); intro _ _ _ _ _ l1 _ _; k_lt l1; revert l1; intro _); trace "L:D02b:3:dict") | ((with_reducible show wpAny _ _ (compareOp .Eq (Value.str _ _) (Value.str _ _)) _ _ _); refine my_eq1 ?_; trace "L:D02b:3:eq1") | ((with_reducible show wpAny _ _ (eval (PySem.Expr.Name _ _) (compEnvC _ _ _ _)) _ _ _); k_dflt (refine LCgL.ld_own (by k_asm) (by k_mem) (by assumption) (by assumption) ?_); trace "L:D02b:3:own") | ((with_reducible show wpAny _ _ (eval (PySem.Expr.Name _ _) (envOfC _ _ _ _ _)) _ _ _); k_dflt (refine' nameX_L ?F ?v ?_ ?a ?b; (case F => k_asm); (case a => rfl); (case b => rfl); (case v => rfl); k_whole); trace "L:D02b:3:nmC") | ((with_reducible show wpAny _ _ (eval (PySem.Expr.Name _ _) (envOf _ _ _ _ _)) _ _ _); k_dflt (refine' nameX_L ?F ?v ?_ ?a ?b; (case F => k_asm); (case a => rfl); (case b => rfl); (case v => rfl); k_whole); trace "L:D02b:3:nm") | ((with_reducible show wpAny _ _ (storeName _ _ _) _ _ _); k_dflt (refine' storeX_L ?F ?N ?_ ?a ?b; (case F => k_asm); (case N => k_asm); (case a => rfl); (case b => rfl); k_whole; intro _ _ _; (try k_sweep)); trace "L:D02b:3:st") | walk1 | (dsimp only; walk1) | (leave1; walk_say "STEP leave1"; try dsimp only)))
    (with_reducible rename News _ _ _ _ => zN)
    exact hret _ _ _ _ (by (repeat' ((with_reducible rename AllLt _ _ => z1); first | exact all_lt z1 (by omega) | clear z1))) _ _ (by assumption) (news3f zN (by decide +kernel) (by decide +kernel) (by decide +kernel))
set_option compiler.extract_closed false
set_option maxRecDepth 100000 in
set_option maxHeartbeats 4000000 in
theorem nested {w : World} {news : Led} (word : PySem.Str) (hw : word.cps.size = 5) (x : Int) (t1 t2 : Tok) :
   CW K02 P02 w H02 84 30 300 news [.str word t1, .int x t2] (fun G => ∀ t, G (.str (nestF word x) t) news) := by
  have hlaw : (fun (_ : OpenLaw) (_ : Params → Frag) => True) Challenge.rw_pg0168_02 hdA.heap_1_1 := by k_fill; exact True.intro
  clear hlaw
  intro p loose mean mg mb dp un gd cn cs L a ccd cl outer A₀ base h₀ m s Q E B F X N T hH hcs hdp hun hret
  obtain ⟨ck, cnm, cg, cc, cm⟩ := cs
  obtain rfl : ck = .function := hcs
  obtain ⟨hH1, hH2⟩ := hH
  replace X : (hdA.heap_1_1 w.params).In h₀ := X
  have hw9 : word.cps.size ≤ sizeLine := by rw [hw, PySem.sizeLine_eq]; decide
  refine wpAny_call ?_
  k_dflt k_enter
  (with_reducible rename Fr _ _ _ _ => lF0)
  refine frGen2 lF0 (a := PySem.Str.ofString "word") (b := PySem.Str.ofString "number") (by with_unfolding_all rfl) (by with_unfolding_all rfl) ?_
  clear lF0
  intro m0 lF0
  (repeat' ((fail_if_success (first | (with_reducible show wpAny _ _ (call (Value.ref _) _) _ _ _) | (with_reducible show wpAny _ _ (pyIter _) _ _ _) | (with_reducible show UnrPost _ _ _ _ _ _ _ _ _) | (with_reducible show wpAny _ _ (exec (Stmt.Assign _ (PySem.Expr.ListComp _ _ _ _) _) _) _ _ _) | (with_reducible show wpAny _ _ (eval (PySem.Expr.ListComp _ _ _ _) _) _ _ _) | (with_reducible show wpAny _ _ (call (Value.type "zip") _) _ _ _) | (with_reducible show MEnd _ _ _ _ _ _ _ _ _ _ _ _ _) | (with_reducible show wpAny _ _ (exec (Stmt.For _ _ _ _ _) _) _ _ _) | (with_reducible show wpAny _ _ (exec (Stmt.While _ _ _ _) _) _ _ _) | (with_reducible show wpAny _ _ (eval (PySem.Expr.IfExp _ _ _ _) _) _ _ _) | (with_reducible show wpAny _ _ (binaryOp .Add (Value.ref _) (Value.ref _)) _ _ _))); first | (k_unfold; (try dsimp only)) | (k_end; wrow_close) | ((with_reducible show wpAny _ _ (call (Value.type "list") [(Value.str _ _)]) _ _ _); (refine' my_listStr ?hh ?F ?N ?gz ?_; (case hh => rfl); (case F => k_asm); (case N => k_asm); (case gz => with_reducible assumption)); intro _ _ _ _ _ _ _ _; walk_at "MINE ltI") | ((with_reducible show wpAny _ _ (eval (PySem.Expr.Name _ _) (envOf _ _ _ _ _)) _ _ _); k_dflt (refine' nameX_L ?F ?v ?_ ?a ?b; (case F => k_asm); (case a => rfl); (case b => rfl); (case v => rfl); k_whole)) | ((with_reducible show wpAny _ _ (storeName _ _ _) _ _ _); k_dflt (refine' storeX_L ?F ?N ?_ ?a ?b; (case F => k_asm); (case N => k_asm); (case a => rfl); (case b => rfl); k_whole; intro _ _ _; (try k_sweep))) | walk1 | (dsimp only; walk1) | (leave1; walk_say "STEP leave1"; try dsimp only)))
  rename_i g1 L1 hA FG1 B1 X1 T1 D0 h0 tk0 vs0 n0 hv0 hlt hs0 F1 N1
  refine wpAny_For ?_
  (repeat' ((fail_if_success (first | (with_reducible show wpAny _ _ (call (Value.ref _) _) _ _ _) | (with_reducible show wpAny _ _ (pyIter _) _ _ _) | (with_reducible show UnrPost _ _ _ _ _ _ _ _ _) | (with_reducible show wpAny _ _ (exec (Stmt.Assign _ (PySem.Expr.ListComp _ _ _ _) _) _) _ _ _) | (with_reducible show wpAny _ _ (eval (PySem.Expr.ListComp _ _ _ _) _) _ _ _) | (with_reducible show wpAny _ _ (call (Value.type "zip") _) _ _ _) | (with_reducible show MEnd _ _ _ _ _ _ _ _ _ _ _ _ _) | (with_reducible show wpAny _ _ (exec (Stmt.For _ _ _ _ _) _) _ _ _) | (with_reducible show wpAny _ _ (exec (Stmt.While _ _ _ _) _) _ _ _) | (with_reducible show wpAny _ _ (eval (PySem.Expr.IfExp _ _ _ _) _) _ _ _) | (with_reducible show wpAny _ _ (binaryOp .Add (Value.ref _) (Value.ref _)) _ _ _))); first | (k_unfold; (try dsimp only)) | (k_end; wrow_close) | walk1 | (dsimp only; walk1) | (leave1; walk_say "STEP leave1"; try dsimp only)))
  refine iter_downG (n := 4) rfl (by assumption) (by decide) (by decide) (by k_asm) (by k_asm) rfl rfl (by first | passes_own | with_unfolding_all passes_own) (fun I hI => ?_)
  refine DRestInd (NsP I news (nestGo 4 x (word.cps.toList.map one1))) ?turn ?done _ _ _ _ ?start
  case start => exact fun _ kk => kk D0 vs0 n0 _ x _ hv0 (by rw [List.length_map, Array.length_toList, hw]) rfl rfl one_len (Nat.ne_of_lt (hI _ (.head _))) rfl rfl
  case done =>
    intro i m nw hP
    apply hP
    clear hP
    intro D vs n ss y ty hv hl hR hki hB hD z1 z2 h9 tk9 F9 N9
    rw [mx2 z1 z2] at F9
    obtain ⟨t0, ht0⟩ := strs_at hv (x := 0) (Int.le_refl 0) (by omega)
    rw [show ss.getD (0 : Int).toNat PySem.Str.empty = nestF word x by rw [nestF, ← hR]; rfl] at ht0
    (repeat' ((fail_if_success (first | (with_reducible show wpAny _ _ (call (Value.ref _) _) _ _ _) | (with_reducible show wpAny _ _ (pyIter _) _ _ _) | (with_reducible show UnrPost _ _ _ _ _ _ _ _ _) | (with_reducible show wpAny _ _ (exec (Stmt.Assign _ (PySem.Expr.ListComp _ _ _ _) _) _) _ _ _) | (with_reducible show wpAny _ _ (eval (PySem.Expr.ListComp _ _ _ _) _) _ _ _) | (with_reducible show wpAny _ _ (call (Value.type "zip") _) _ _ _) | (with_reducible show MEnd _ _ _ _ _ _ _ _ _ _ _ _ _) | (with_reducible show wpAny _ _ (exec (Stmt.For _ _ _ _ _) _) _ _ _) | (with_reducible show wpAny _ _ (exec (Stmt.While _ _ _ _) _) _ _ _) | (with_reducible show wpAny _ _ (eval (PySem.Expr.IfExp _ _ _ _) _) _ _ _) | (with_reducible show wpAny _ _ (binaryOp .Add (Value.ref _) (Value.ref _)) _ _ _))); first | (k_unfold; (try dsimp only)) | (k_end; wrow_close) | ((with_reducible show wpAny _ _ (subscriptTail _ _ (Value.ref _) (Value.int 0 _)) _ _ _); refine' my_at ?gN ?gm ?g0 ?g1 ?gx ?_; (case gN => k_asm); (case gm => k_mem); (case g0 => decide); (case g1 => decide); (case gx => with_reducible assumption)) | ((with_reducible show wpAny _ _ (eval (PySem.Expr.Name _ _) (envOf _ _ _ _ _)) _ _ _); k_dflt (refine' nameX_L ?F ?v ?_ ?a ?b; (case F => k_asm); (case a => rfl); (case b => rfl); (case v => rfl); k_whole)) | walk1 | (dsimp only; walk1) | (leave1; walk_say "STEP leave1"; try dsimp only)))
    exact hret _ _ _ (by k_asm) (newsSub (by k_asm) (fun p hp => .tail _ hp))
  case turn =>
    intro k i m nw hP
    apply hP
    clear hP
    intro D vs n ss y ty hv hl hR hki hB hD z1 z2 t it h9 tk9 Q9 hU F9 N9
    rw [mx2 z1 z2, show (4 : Int) + (i : Int) * -1 = ((k + 1 : Nat) : Int) by omega] at F9
    obtain ⟨f0, f1⟩ := fmod_ok y k
    have hl2 : ss.length = k + 2 := hl
    have hi8 : 3 * 2 ^ i ≤ 1000 := nest_i hki
    obtain ⟨ta, hta⟩ := strs_at hv f0 (by omega)
    obtain ⟨tb, htb⟩ := strs_at hv (x := y.fmod ((k + 1 : Nat) : Int) + 1) (by omega) (by omega)
    obtain ⟨r1, r2, r3⟩ := par_room (a := ss.getD (y.fmod ((k + 1 : Nat) : Int)).toNat PySem.Str.empty) (b := ss.getD (y.fmod ((k + 1 : Nat) : Int) + 1).toNat PySem.Str.empty) (Nat.le_trans (Nat.le_add_right _ 2) (Nat.le_trans (getD_len hB (nest_2 i)) hi8)) (Nat.le_trans (Nat.le_add_right _ 2) (Nat.le_trans (getD_len hB (nest_2 i)) hi8))
    obtain ⟨g1', g2'⟩ := nest_len (x := y) hl2 hB
    have hk0 : ((k + 1 : Nat) : Int) ≠ 0 := by omega
    have f02 : 0 ≤ y.fmod ((k + 1 : Nat) : Int) + 2 := by omega
    have hvm : vs.length ≤ 1000 := by rw [hv.len_eq]; omega
    have hvl : vs.length ≤ 5 := by rw [hv.len_eq]; omega
    clear hta htb ta tb
    have hv9 : ∀ _ : Unit, StrsAre vs ss := fun _ => hv
    obtain ⟨ta, hta⟩ := strs_at hv f0 (by omega)
    obtain ⟨tb, htb⟩ := strs_at hv (x := y.fmod ((k + 1 : Nat) : Int) + 1) (by omega) (by omega)
    (repeat' ((fail_if_success (first | (with_reducible show wpAny _ _ (call (Value.ref _) _) _ _ _) | (with_reducible show wpAny _ _ (pyIter _) _ _ _) | (with_reducible show UnrPost _ _ _ _ _ _ _ _ _) | (with_reducible show wpAny _ _ (exec (Stmt.Assign _ (PySem.Expr.ListComp _ _ _ _) _) _) _ _ _) | (with_reducible show wpAny _ _ (eval (PySem.Expr.ListComp _ _ _ _) _) _ _ _) | (with_reducible show wpAny _ _ (call (Value.type "zip") _) _ _ _) | (with_reducible show MEnd _ _ _ _ _ _ _ _ _ _ _ _ _) | (with_reducible show wpAny _ _ (exec (Stmt.For _ _ _ _ _) _) _ _ _) | (with_reducible show wpAny _ _ (exec (Stmt.While _ _ _ _) _) _ _ _) | (with_reducible show wpAny _ _ (eval (PySem.Expr.IfExp _ _ _ _) _) _ _ _) | (with_reducible show wpAny _ _ (binaryOp .Add (Value.ref _) (Value.ref _)) _ _ _))); first | (k_unfold; (try dsimp only)) | (k_end; wrow_close) | ((with_reducible show wpAny _ _ (subscriptTail _ (PySem.Expr.Slice none (some _) none _) (Value.ref _) (Value.ref _)) _ _ _); (refine' my_sliceT ?gF ?gN ?gm ?g0 ?gz ?_; (case gF => k_asm); (case gN => k_asm); (case gm => k_mem); (case g0 => with_reducible assumption); (case gz => with_reducible assumption)); intro _ _ _ _; walk_at "MINE ltI") | ((with_reducible show wpAny _ _ (binaryOp .Add (Value.str _ _) (Value.str _ _)) _ _ _); (refine add_str ?_ ?hz9; rotate_left; (case hz9 => with_reducible assumption)); intro _ _) | ((with_reducible show wpAny _ _ (eval (PySem.Expr.Name _ _) (envOf _ _ _ _ _)) _ _ _); k_dflt (refine' nameX_L ?F ?v ?_ ?a ?b; (case F => k_asm); (case a => rfl); (case b => rfl); (case v => rfl); k_whole)) | ((with_reducible show wpAny _ _ (storeName _ _ _) _ _ _); k_dflt (refine' storeX_L ?F ?N ?_ ?a ?b; (case F => k_asm); (case N => k_asm); (case a => rfl); (case b => rfl); k_whole; intro _ _ _; (try k_sweep))) | walk1 | (dsimp only; walk1) | (leave1; walk_say "STEP leave1"; try dsimp only)))
    (with_reducible rename News _ _ _ _ => NS)
    refine my_addL (vs := vs.take (y.fmod ((k + 1 : Nat) : Int)).toNat) (us := [_]) (by k_asm) NS (.tail _ (.head _)) (.head _) (by rw [List.length_take]; exact Nat.le_trans (Nat.add_le_add_right (Nat.le_trans (Nat.min_le_right _ _) hvl) 1) (by decide)) (fun D1 h1 F1 N1 l1 => ?_)
    k_lt l1
    (repeat' ((fail_if_success (first | (with_reducible show wpAny _ _ (call (Value.ref _) _) _ _ _) | (with_reducible show wpAny _ _ (pyIter _) _ _ _) | (with_reducible show UnrPost _ _ _ _ _ _ _ _ _) | (with_reducible show wpAny _ _ (exec (Stmt.Assign _ (PySem.Expr.ListComp _ _ _ _) _) _) _ _ _) | (with_reducible show wpAny _ _ (eval (PySem.Expr.ListComp _ _ _ _) _) _ _ _) | (with_reducible show wpAny _ _ (call (Value.type "zip") _) _ _ _) | (with_reducible show MEnd _ _ _ _ _ _ _ _ _ _ _ _ _) | (with_reducible show wpAny _ _ (exec (Stmt.For _ _ _ _ _) _) _ _ _) | (with_reducible show wpAny _ _ (exec (Stmt.While _ _ _ _) _) _ _ _) | (with_reducible show wpAny _ _ (eval (PySem.Expr.IfExp _ _ _ _) _) _ _ _) | (with_reducible show wpAny _ _ (binaryOp .Add (Value.ref _) (Value.ref _)) _ _ _))); first | (k_unfold; (try dsimp only)) | (k_end; wrow_close) | ((with_reducible show wpAny _ _ (subscriptTail _ (PySem.Expr.Slice (some _) none none _) (Value.ref _) (Value.ref _)) _ _ _); (refine' my_sliceF ?gF ?gN ?gm ?g0 ?gz ?_; (case gF => k_asm); (case gN => k_asm); (case gm => k_mem); (case g0 => with_reducible assumption); (case gz => with_reducible assumption)); intro _ _ _ _; walk_at "MINE ltI") | ((with_reducible show wpAny _ _ (eval (PySem.Expr.Name _ _) (envOf _ _ _ _ _)) _ _ _); k_dflt (refine' nameX_L ?F ?v ?_ ?a ?b; (case F => k_asm); (case a => rfl); (case b => rfl); (case v => rfl); k_whole)) | walk1 | (dsimp only; walk1) | (leave1; walk_say "STEP leave1"; try dsimp only)))
    (with_reducible rename News _ _ _ _ => NS2)
    refine my_addL (vs := vs.take (y.fmod ((k + 1 : Nat) : Int)).toNat ++ [_]) (us := vs.drop (y.fmod ((k + 1 : Nat) : Int) + 2).toNat) (by k_asm) NS2 (.tail _ (.head _)) (.head _) (by rw [List.length_append, List.length_take, List.length_drop, List.length_singleton]; omega) (fun D2 h2 F2 N2 l2 => ?_)
    k_lt l2
    (repeat' ((fail_if_success (first | (with_reducible show wpAny _ _ (call (Value.ref _) _) _ _ _) | (with_reducible show wpAny _ _ (pyIter _) _ _ _) | (with_reducible show UnrPost _ _ _ _ _ _ _ _ _) | (with_reducible show wpAny _ _ (exec (Stmt.Assign _ (PySem.Expr.ListComp _ _ _ _) _) _) _ _ _) | (with_reducible show wpAny _ _ (eval (PySem.Expr.ListComp _ _ _ _) _) _ _ _) | (with_reducible show wpAny _ _ (call (Value.type "zip") _) _ _ _) | (with_reducible show MEnd _ _ _ _ _ _ _ _ _ _ _ _ _) | (with_reducible show wpAny _ _ (exec (Stmt.For _ _ _ _ _) _) _ _ _) | (with_reducible show wpAny _ _ (exec (Stmt.While _ _ _ _) _) _ _ _) | (with_reducible show wpAny _ _ (eval (PySem.Expr.IfExp _ _ _ _) _) _ _ _) | (with_reducible show wpAny _ _ (binaryOp .Add (Value.ref _) (Value.ref _)) _ _ _))); first | (k_unfold; (try dsimp only)) | (k_end; wrow_close) | ((with_reducible show wpAny _ _ (storeName _ _ _) _ _ _); k_dflt (refine' storeX_L ?F ?N ?_ ?a ?b; (case F => k_asm); (case N => k_asm); (case a => rfl); (case b => rfl); k_whole; intro _ _ _; (try k_sweep))) | walk1 | (dsimp only; walk1) | (leave1; walk_say "STEP leave1"; try dsimp only)))
    exact hU (by k_asm) (by k_asm) ((D2, W.listOf _ 0) :: news) (by (repeat' first | exact List.forall_mem_nil _ | refine FMC.all ⟨by k_mem, ?_⟩ | (intro p9 hp9; (repeat' first | assumption | refine List.Mem.tail _ ?_)))) (FMC.all ⟨Nat.ne_of_gt (by assumption), fun p hp => Nat.ne_of_lt (hI p (.tail _ hp))⟩) (fun _ kk => kk D2 _ 0 _ _ _ (strs_app (strs_drop _ (hv9 ())) (strs_app (.cons _ _ .nil) (strs_take _ (hv9 ())))) g1' hR (by omega) g2' (Nat.ne_of_gt (by assumption)) rfl rfl)
set_option compiler.extract_closed false
set_option maxRecDepth 100000 in
set_option maxHeartbeats 4000000 in
theorem chords {w : World} {news : Led} (x : PySem.Str) (hx : x.cps.size ≤ 50) (R : List (Nat × Nat)) (hR : chGo x.cps.toList [] 0 [] = some R) (t1 : Tok) :
   CW K02 P02 w H02 103 30 300 news [.str x t1] (fun G => ∀ (D : Addr) (ts : List (Addr × Value × Value)) (n : Nat) (ext : Led), PrsAre ts R → (∀ e ∈ ts, (e.1, tup [e.2.1, e.2.2]) ∈ ext) → (∀ q ∈ ext, q.1 ≠ D ∧ ∀ z ∈ news, z.1 < q.1) → (∀ z ∈ news, z.1 < D) → G (.ref D) ((D, W.listOf (ts.map fun e => Value.ref e.1).toArray n) :: (ext ++ news))) := by
  have hlaw : (fun (_ : OpenLaw) (_ : Params → Frag) => True) Challenge.rw_pg0168_02 hdA.heap_1_1 := by k_fill; exact True.intro
  clear hlaw
  intro p loose mean mg mb dp un gd cn cs L a ccd cl outer A₀ base h₀ m s Q E B F X N T hH hcs hdp hun hret
  obtain ⟨ck, cnm, cg, cc, cm⟩ := cs
  obtain rfl : ck = .function := hcs
  obtain ⟨hH1, hH2⟩ := hH
  replace X : (hdA.heap_1_1 w.params).In h₀ := X
  refine wpAny_call ?_
  k_dflt k_enter
  (repeat' ((fail_if_success (first | (with_reducible show wpAny _ _ (call (Value.ref _) _) _ _ _) | (with_reducible show wpAny _ _ (pyIter _) _ _ _) | (with_reducible show UnrPost _ _ _ _ _ _ _ _ _) | (with_reducible show wpAny _ _ (exec (Stmt.Assign _ (PySem.Expr.ListComp _ _ _ _) _) _) _ _ _) | (with_reducible show wpAny _ _ (eval (PySem.Expr.ListComp _ _ _ _) _) _ _ _) | (with_reducible show wpAny _ _ (call (Value.type "zip") _) _ _ _) | (with_reducible show MEnd _ _ _ _ _ _ _ _ _ _ _ _ _) | (with_reducible show wpAny _ _ (exec (Stmt.For _ _ _ _ _) _) _ _ _) | (with_reducible show wpAny _ _ (exec (Stmt.While _ _ _ _) _) _ _ _) | (with_reducible show wpAny _ _ (eval (PySem.Expr.IfExp _ _ _ _) _) _ _ _))); first | (k_unfold; (try dsimp only)) | (k_end; wrow_close) | ((with_reducible show wpAny _ _ (storeName _ _ _) _ _ _); k_dflt (refine' storeX_L ?F ?N ?_ ?a ?b; (case F => k_asm); (case N => k_asm); (case a => rfl); (case b => rfl); k_whole; intro _ _ _; (try k_sweep))) | walk1 | (dsimp only; walk1) | (leave1; walk_say "STEP leave1"; try dsimp only)))
  (with_reducible rename Fr _ _ _ _ => lF)
  with_unfolding_all refine' For_invVF lF ?k1 ?k2 ?_
  case k1 => exact rfl
  case k2 => exact rfl
  (repeat' ((fail_if_success (first | (with_reducible show wpAny _ _ (call (Value.ref _) _) _ _ _) | (with_reducible show wpAny _ _ (pyIter _) _ _ _) | (with_reducible show UnrPost _ _ _ _ _ _ _ _ _) | (with_reducible show wpAny _ _ (exec (Stmt.Assign _ (PySem.Expr.ListComp _ _ _ _) _) _) _ _ _) | (with_reducible show wpAny _ _ (eval (PySem.Expr.ListComp _ _ _ _) _) _ _ _) | (with_reducible show wpAny _ _ (call (Value.type "zip") _) _ _ _) | (with_reducible show MEnd _ _ _ _ _ _ _ _ _ _ _ _ _) | (with_reducible show wpAny _ _ (exec (Stmt.For _ _ _ _ _) _) _ _ _) | (with_reducible show wpAny _ _ (exec (Stmt.While _ _ _ _) _) _ _ _) | (with_reducible show wpAny _ _ (eval (PySem.Expr.IfExp _ _ _ _) _) _ _ _))); first | (k_unfold; (try dsimp only)) | (k_end; wrow_close) | ((with_reducible show wpAny _ _ (eval (PySem.Expr.Name _ _) (envOf _ _ _ _ _)) _ _ _); k_dflt (refine' nameX_L ?F ?v ?_ ?a ?b; (case F => k_asm); (case a => rfl); (case b => rfl); (case v => rfl); k_whole)) | walk1 | (dsimp only; walk1) | (leave1; walk_say "STEP leave1"; try dsimp only)))
  rename_i g1 L1 hA FG1 B1 X1 T1 tkA Dc hA2 lc hB tkB Dp hC e1 lp hD hE N1
  refine' iter_strUnr (l := x.cps.toList.map one1) rfl ?Fb ?Nb rfl ?rest
  case Fb => k_asm
  case Nb => k_asm
  case rest =>
    intro I hI
    refine StrIndQ (ChP I news R) ?turn ?done _ _ _ ?start
    case start => exact ChP.mk (pv := []) (st := []) (ts := []) (acc := []) (ext := []) (pl := 0) .nil hR True.intro (List.forall_mem_nil _) (fun q hq => ⟨Nat.ne_of_lt (hI q (.tail _ (.tail _ hq))), Nat.ne_of_lt (allLt_mem lp q hq), Nat.ne_of_lt (allLt_mem lc q hq)⟩) (List.forall_mem_nil _) (fun z hz => allLt_mem lc z hz) ⟨Nat.ne_of_lt (hI _ (.head _)), Nat.ne_of_lt (hI _ (.tail _ (.head _))), Nat.ne_of_gt e1⟩ (by rw [Array.length_toList]; exact Nat.le_trans (Nat.add_le_add_left hx 0) (by decide)) (by rw [Array.length_toList]; exact Nat.le_trans (Nat.add_le_add_left hx 0) (by decide)) (by rw [Array.length_toList]; exact Nat.le_trans (Nat.add_le_add_left hx 0) (by decide)) rfl rfl rfl
    case done =>
      intro m nw hP
      apply ChP.done hP
      clear hP
      intro Dp Dc pv np nc pl st ts acc ext tp hp hg hts hin hoff hfr hlt hne b1 b2 b3 z1 z2 z3 h9 tk9 F9 N9
      rw [mx3 z1 z2 z3] at F9
      have hacc : acc = R := Option.some.inj hg
      subst hacc
      (repeat' ((fail_if_success (first | (with_reducible show wpAny _ _ (call (Value.ref _) _) _ _ _) | (with_reducible show wpAny _ _ (pyIter _) _ _ _) | (with_reducible show UnrPost _ _ _ _ _ _ _ _ _) | (with_reducible show wpAny _ _ (exec (Stmt.Assign _ (PySem.Expr.ListComp _ _ _ _) _) _) _ _ _) | (with_reducible show wpAny _ _ (eval (PySem.Expr.ListComp _ _ _ _) _) _ _ _) | (with_reducible show wpAny _ _ (call (Value.type "zip") _) _ _ _) | (with_reducible show MEnd _ _ _ _ _ _ _ _ _ _ _ _ _) | (with_reducible show wpAny _ _ (exec (Stmt.For _ _ _ _ _) _) _ _ _) | (with_reducible show wpAny _ _ (exec (Stmt.While _ _ _ _) _) _ _ _) | (with_reducible show wpAny _ _ (eval (PySem.Expr.IfExp _ _ _ _) _) _ _ _))); first | (k_unfold; (try dsimp only)) | (k_end; wrow_close) | ((with_reducible show wpAny _ _ (eval (PySem.Expr.Name _ _) (envOf _ _ _ _ _)) _ _ _); k_dflt (refine' nameX_L ?F ?v ?_ ?a ?b; (case F => k_asm); (case a => rfl); (case b => rfl); (case v => rfl); k_whole)) | walk1 | (dsimp only; walk1) | (leave1; walk_say "STEP leave1"; try dsimp only)))
      exact hret Dc ts nc ext hts hin (fun q hq => ⟨(hoff q (List.mem_append_left _ hq)).2.2, hfr q hq⟩) hlt _ _ (by k_asm) (newsSub (by k_asm) (fun p hp => .tail _ hp))
    case turn =>
      intro c us m nw hP
      apply ChP.turn hP
      clear hP
      intro c0 cs Dp Dc pv np nc pl st ts acc ext tp hp hg hts hin hoff hfr hlt hne b1 b2 b3 z1 z2 z3 u it h9 tk9 Q9 E9 hU F9 N9
      rw [mx3 z1 z2 z3] at F9
      obtain ⟨n1, n2, n3⟩ := hne
      have hfp : ∀ q ∈ ext ++ news, q.1 ≠ Dp := fun q hq => (hoff q hq).2.1
      have hfc : ∀ q ∈ ext ++ news, q.1 ≠ Dc := fun q hq => (hoff q hq).2.2
      have hfi : ∀ q ∈ ext ++ news, q.1 ≠ I := fun q hq => (hoff q hq).1
      by_cases h40 : c0 = 40
      · subst h40
        rw [chGo_open] at hg
        (repeat' ((fail_if_success (first | (with_reducible show wpAny _ _ (call (Value.ref _) _) _ _ _) | (with_reducible show wpAny _ _ (pyIter _) _ _ _) | (with_reducible show UnrPost _ _ _ _ _ _ _ _ _) | (with_reducible show wpAny _ _ (exec (Stmt.Assign _ (PySem.Expr.ListComp _ _ _ _) _) _) _ _ _) | (with_reducible show wpAny _ _ (eval (PySem.Expr.ListComp _ _ _ _) _) _ _ _) | (with_reducible show wpAny _ _ (call (Value.type "zip") _) _ _ _) | (with_reducible show MEnd _ _ _ _ _ _ _ _ _ _ _ _ _) | (with_reducible show wpAny _ _ (exec (Stmt.For _ _ _ _ _) _) _ _ _) | (with_reducible show wpAny _ _ (exec (Stmt.While _ _ _ _) _) _ _ _) | (with_reducible show wpAny _ _ (eval (PySem.Expr.IfExp _ _ _ _) _) _ _ _))); first | (k_unfold; (try dsimp only)) | (k_end; wrow_close) | ((with_reducible show ite _ _ _); refine ite_pos (by decide +kernel) ?_) | ((with_reducible show wpAny _ _ (compareOp .Eq (Value.str _ _) (Value.str _ _)) _ _ _); refine my_eq1 ?_) | ((with_reducible show wpAny _ _ (eval (PySem.Expr.Name _ _) (envOf _ _ _ _ _)) _ _ _); k_dflt (refine' nameX_L ?F ?v ?_ ?a ?b; (case F => k_asm); (case a => rfl); (case b => rfl); (case v => rfl); k_whole)) | walk1 | (dsimp only; walk1) | (leave1; walk_say "STEP leave1"; try dsimp only)))
        (with_reducible rename News _ _ _ _ => NZ)
        rw [List.push_toArray] at NZ
        exact hU (by k_asm) NZ ((Dp, W.listOf (pv ++ [Value.int ((pl : Nat) : Int) tp]).toArray (np + 1)) :: (Dc, W.listOf (ts.map fun e => Value.ref e.1).toArray nc) :: (ext ++ news)) (fun p hp => hp) (FMC.all ⟨n1, FMC.all ⟨n2, hfi⟩⟩)
          (ChP.mk (st := pl :: st) (by rw [List.reverse_cons]; exact ints_snocN hp) hg hts hin hoff hfr hlt ⟨n1, n2, n3⟩ (by rw [List.length_cons] at b1 ⊢; omega) (Nat.le_of_succ_le b2) (Nat.le_of_succ_le b3) rfl rfl rfl)
      · by_cases h41 : c0 = 41
        · subst h41
          cases st with
          | nil =>
            rw [chGo_none] at hg
            cases hg
          | cons y st =>
            rw [chGo_shut] at hg
            obtain ⟨p, ty, hpe, hp2⟩ := ints_split (s := st.reverse) (y := y) (by rw [← List.reverse_cons]; exact hp)
            have hpl : pv.length ≤ 1000 := by rw [ints_len hp, List.length_reverse]; exact Nat.le_trans (Nat.le_trans (Nat.le_add_right _ _) b1) (by decide)
            have hml := map_len (n := cs.length) hts b2
            (repeat' ((fail_if_success (first | (with_reducible show wpAny _ _ (call (Value.ref _) _) _ _ _) | (with_reducible show wpAny _ _ (pyIter _) _ _ _) | (with_reducible show UnrPost _ _ _ _ _ _ _ _ _) | (with_reducible show wpAny _ _ (exec (Stmt.Assign _ (PySem.Expr.ListComp _ _ _ _) _) _) _ _ _) | (with_reducible show wpAny _ _ (eval (PySem.Expr.ListComp _ _ _ _) _) _ _ _) | (with_reducible show wpAny _ _ (call (Value.type "zip") _) _ _ _) | (with_reducible show MEnd _ _ _ _ _ _ _ _ _ _ _ _ _) | (with_reducible show wpAny _ _ (exec (Stmt.For _ _ _ _ _) _) _ _ _) | (with_reducible show wpAny _ _ (exec (Stmt.While _ _ _ _) _) _ _ _) | (with_reducible show wpAny _ _ (eval (PySem.Expr.IfExp _ _ _ _) _) _ _ _))); first | (k_unfold; (try dsimp only)) | (k_end; wrow_close) | ((with_reducible show wpAny _ _ (call (Value.builtin "list.append") [(Value.ref _), _]) _ _ _); (k_dflt (refine' append_K ?gF ?gN ?gU ?_ ?gz; (case gF => k_asm); (case gN => k_asm); (case gU => k_upd); (case gz => with_reducible assumption); k_whole)); intro _ _ _) | (with_reducible refine my_no40 (by with_reducible assumption) ?_) | ((with_reducible show wpAny _ _ (call (Value.builtin "list.pop") [(Value.ref _)]) _ _ _); (refine' my_pop ?gF ?gN ?ge ?gU ?gz ?_; (case gF => k_asm); (case gN => k_asm); (case ge => with_reducible assumption); (case gU => k_upd); (case gz => with_reducible assumption)); intro _ _ _) | ((with_reducible show ite _ _ _); refine ite_pos (by decide +kernel) ?_) | ((with_reducible show ite _ _ _); refine ite_neg (by decide +kernel) ?_) | ((with_reducible show wpAny _ _ (newTuple _) _ _ _); (k_dflt (refine' kup_newTuple ?gF9 ?gN9 ?_ ?gz9; (case gF9 => k_asm); (case gN9 => k_asm); (case gz9 => exact Nat.le_of_ble_eq_true rfl)); intro _ _ _ _; walk_at "MINE ltI")) | ((with_reducible show wpAny _ _ (compareOp .Eq (Value.str _ _) (Value.str _ _)) _ _ _); refine my_eq1 ?_) | walk1 | (dsimp only; walk1) | (leave1; walk_say "STEP leave1"; try dsimp only)))
            (with_reducible rename News _ _ _ _ => NZ)
            rename_i D9 hD9 FD ND d1 d2 d3 lD hE9 FE
            rw [push_map (a := .int ((y : Nat) : Int) ty) (b := .int ((pl : Nat) : Int) tp)] at NZ
            exact hU FE NZ ((Dp, W.listOf p.toArray (np + 1)) :: (Dc, W.listOf ((ts ++ [(D9, Value.int ((y : Nat) : Int) ty, Value.int ((pl : Nat) : Int) tp)]).map fun e => Value.ref e.1).toArray (nc + 1)) :: (((D9, tup [Value.int ((y : Nat) : Int) ty, Value.int ((pl : Nat) : Int) tp]) :: ext) ++ news)) (by (repeat' first | exact List.forall_mem_nil _ | refine FMC.all ⟨by k_mem, ?_⟩ | (intro p9 hp9; (repeat' first | assumption | refine List.Mem.tail _ ?_)))) (FMC.all ⟨n1, FMC.all ⟨n2, FMC.all ⟨Nat.ne_of_gt d1, hfi⟩⟩⟩)
              (ChP.mk hp2 hg (PrsAre.snoc hts) (fun e he => (List.mem_append.mp he).elim (fun h => .tail _ (hin e h)) (fun h => by rw [List.mem_singleton.mp h]; exact .head _)) (FMC.all ⟨⟨Nat.ne_of_gt d1, Nat.ne_of_gt d2, Nat.ne_of_gt d3⟩, hoff⟩) (FMC.all ⟨fun z hz => allLt_mem lD z (List.mem_append_right _ hz), hfr⟩) hlt ⟨n1, n2, n3⟩ (by rw [List.length_cons, List.length_cons] at b1; omega) (by rw [List.length_append, List.length_singleton, Nat.add_assoc, Nat.add_comm 1]; exact b2) (Nat.le_of_succ_le b3) rfl rfl rfl)
        · rw [chGo_else h40 h41] at hg
          (repeat' ((fail_if_success (first | (with_reducible show wpAny _ _ (call (Value.ref _) _) _ _ _) | (with_reducible show wpAny _ _ (pyIter _) _ _ _) | (with_reducible show UnrPost _ _ _ _ _ _ _ _ _) | (with_reducible show wpAny _ _ (exec (Stmt.Assign _ (PySem.Expr.ListComp _ _ _ _) _) _) _ _ _) | (with_reducible show wpAny _ _ (eval (PySem.Expr.ListComp _ _ _ _) _) _ _ _) | (with_reducible show wpAny _ _ (call (Value.type "zip") _) _ _ _) | (with_reducible show MEnd _ _ _ _ _ _ _ _ _ _ _ _ _) | (with_reducible show wpAny _ _ (exec (Stmt.For _ _ _ _ _) _) _ _ _) | (with_reducible show wpAny _ _ (exec (Stmt.While _ _ _ _) _) _ _ _) | (with_reducible show wpAny _ _ (eval (PySem.Expr.IfExp _ _ _ _) _) _ _ _))); first | (k_unfold; (try dsimp only)) | (k_end; wrow_close) | (with_reducible refine my_no40 (by with_reducible assumption) ?_) | (with_reducible refine my_no41 (by with_reducible assumption) ?_) | ((with_reducible show ite _ _ _); refine ite_neg (by decide +kernel) ?_) | walk1 | (dsimp only; walk1) | (leave1; walk_say "STEP leave1"; try dsimp only)))
          exact hU (by k_asm) (by k_asm) ((Dp, W.listOf pv.toArray np) :: (Dc, W.listOf (ts.map fun e => Value.ref e.1).toArray nc) :: (ext ++ news)) (fun p hp => hp) (FMC.all ⟨n1, FMC.all ⟨n2, hfi⟩⟩)
            (ChP.mk (pl := pl + 1) hp hg hts hin hoff hfr hlt ⟨n1, n2, n3⟩ (Nat.le_of_succ_le b1) (Nat.le_of_succ_le b2) (by rw [List.length_cons] at b3; omega) rfl rfl rfl)
set_option compiler.extract_closed false
set_option maxRecDepth 100000 in
set_option maxHeartbeats 4000000 in
theorem told {w : World} {news : Led} (cor : List Nat) (hc : cor.length = 6) (hc4 : ∀ x ∈ cor, x < 4) (ps : List (Nat × Nat)) (hps : ∀ p ∈ ps, p.1 < 6 ∧ p.2 < 6) (h05 : (0, 5) ∈ ps) (hpl : ps.length ≤ 50) (Dc D : Addr) (vs : List Value) (kc n : Nat) (hv : IntsAre vs (castL cor)) (hm : (Dc, W.listOf vs.toArray kc) ∈ news) (ts : List (Addr × Value × Value)) (hts : PrsAre ts ps) (hD : (D, W.listOf (ts.map fun e => Value.ref e.1).toArray n) ∈ news) (hin : ∀ e ∈ ts, (e.1, tup [e.2.1, e.2.2]) ∈ news) :
   CW K02 P02 w H02 113 30 300 news [.ref Dc, .ref D] (fun G => ∀ t, G (.str (toldC cor ps) t) news) := by
  have hlaw : (fun (_ : OpenLaw) (_ : Params → Frag) => True) Challenge.rw_pg0168_02 hdA.heap_1_1 := by k_fill; exact True.intro
  clear hlaw
  intro p loose mean mg mb dp un gd cn cs L a ccd cl outer A₀ base h₀ m s Q E B F X N T hH hcs hdp hun hret
  obtain ⟨ck, cnm, cg, cc, cm⟩ := cs
  obtain rfl : ck = .function := hcs
  obtain ⟨hH1, hH2⟩ := hH
  replace X : (hdA.heap_1_1 w.params).In h₀ := X
  refine wpAny_call ?_
  k_dflt k_enter
  (repeat' ((fail_if_success (first | (with_reducible show wpAny _ _ (call (Value.ref _) _) _ _ _) | (with_reducible show wpAny _ _ (pyIter _) _ _ _) | (with_reducible show UnrPost _ _ _ _ _ _ _ _ _) | (with_reducible show wpAny _ _ (exec (Stmt.Assign _ (PySem.Expr.ListComp _ _ _ _) _) _) _ _ _) | (with_reducible show wpAny _ _ (eval (PySem.Expr.ListComp _ _ _ _) _) _ _ _) | (with_reducible show wpAny _ _ (call (Value.type "zip") _) _ _ _) | (with_reducible show MEnd _ _ _ _ _ _ _ _ _ _ _ _ _) | (with_reducible show wpAny _ _ (exec (Stmt.For _ _ _ _ _) _) _ _ _) | (with_reducible show wpAny _ _ (exec (Stmt.While _ _ _ _) _) _ _ _) | (with_reducible show wpAny _ _ (eval (PySem.Expr.IfExp _ _ _ _) _) _ _ _))); first | (k_unfold; (try dsimp only)) | (k_end; wrow_close) | walk1 | (dsimp only; walk1) | (leave1; walk_say "STEP leave1"; try dsimp only)))
  (with_reducible rename (_ = Data.cell _) => dq)
  replace dq : _ = Data.cell (some (Value.ref Dc)) := dq
  (with_reducible rename Fr _ _ _ _ => lF)
  refine frGen1 lF (a := PySem.Str.ofString "chords") (by with_unfolding_all rfl) ?_
  clear lF
  intro m0 lF
  (k_dflt (refine mc_List (ct := some _) (by k_asm) (by with_unfolding_all rfl) (by decide) (by rfl) (by decide) (by rfl) (by rfl) (by decide) ?_))
  (repeat' ((fail_if_success (first | (with_reducible show wpAny _ _ (call (Value.ref _) _) _ _ _) | (with_reducible show wpAny _ _ (pyIter _) _ _ _) | (with_reducible show UnrPost _ _ _ _ _ _ _ _ _) | (with_reducible show wpAny _ _ (exec (Stmt.Assign _ (PySem.Expr.ListComp _ _ _ _) _) _) _ _ _) | (with_reducible show wpAny _ _ (eval (PySem.Expr.ListComp _ _ _ _) _) _ _ _) | (with_reducible show wpAny _ _ (call (Value.type "zip") _) _ _ _) | (with_reducible show MEnd _ _ _ _ _ _ _ _ _ _ _ _ _) | (with_reducible show wpAny _ _ (exec (Stmt.For _ _ _ _ _) _) _ _ _) | (with_reducible show wpAny _ _ (exec (Stmt.While _ _ _ _) _) _ _ _) | (with_reducible show wpAny _ _ (eval (PySem.Expr.IfExp _ _ _ _) _) _ _ _))); first | (k_unfold; (try dsimp only)) | (k_end; wrow_close) | ((with_reducible show wpAny _ _ (eval (PySem.Expr.Name _ _) (envOfC _ _ _ _ _)) _ _ _); k_dflt (refine' nameX_L ?F ?v ?_ ?a ?b; (case F => k_asm); (case a => rfl); (case b => rfl); (case v => rfl); k_whole)) | walk1 | (dsimp only; walk1) | (leave1; walk_say "STEP leave1"; try dsimp only)))
  refine mc_pairs (ts := ts) (k := n) (by rfl) (by k_asm) (by k_asm) (.tail _ hD) (fun e he => .tail _ (hin e he)) (by rw [hts.len]; exact Nat.le_trans hpl (by decide)) (fun g i0 => ?_)
  refine mrest_pairsT (alike cor) (fun p => p.1 < 6 ∧ p.2 < 6) ?turnA ts ps [] _ false hts hps rfl ?finA
  case turnA =>
    intro p t u its C oC D2 m₂ ys h tk E' hp hi hC ha hb F N off offI offC ne
    obtain ⟨ta, hta⟩ := nats_at hv (j := p.1) (by rw [hc]; exact hp.1)
    obtain ⟨tb, htb⟩ := nats_at hv (j := p.2) (by rw [hc]; exact hp.2)
    have ha1 : (Dc, W.listOf vs.toArray kc) ∈ news ++ its := List.mem_append_left _ hm
    have w0 := Int.natCast_nonneg p.1
    have w1 := Int.natCast_nonneg p.2
    have w2 := n_63 hp.1
    have w3 := n_63 hp.2
    (repeat' ((fail_if_success (first | (with_reducible show wpAny _ _ (call (Value.ref _) _) _ _ _) | (with_reducible show wpAny _ _ (pyIter _) _ _ _) | (with_reducible show UnrPost _ _ _ _ _ _ _ _ _) | (with_reducible show wpAny _ _ (exec (Stmt.Assign _ (PySem.Expr.ListComp _ _ _ _) _) _) _ _ _) | (with_reducible show wpAny _ _ (eval (PySem.Expr.ListComp _ _ _ _) _) _ _ _) | (with_reducible show wpAny _ _ (call (Value.type "zip") _) _ _ _) | (with_reducible show MEnd _ _ _ _ _ _ _ _ _ _ _ _ _) | (with_reducible show wpAny _ _ (exec (Stmt.For _ _ _ _ _) _) _ _ _) | (with_reducible show wpAny _ _ (exec (Stmt.While _ _ _ _) _) _ _ _) | (with_reducible show wpAny _ _ (eval (PySem.Expr.IfExp _ _ _ _) _) _ _ _))); first | (k_unfold; (try dsimp only)) | (k_end; wrow_close) | ((with_reducible show wpAny _ _ (subscriptTail _ _ (Value.ref _) (Value.int _ _)) _ _ _); refine' my_at ?gN ?gm ?g0 ?g1 ?gx ?_; (case gN => k_asm); (case gm => k_mem); (case g0 => with_reducible assumption); (case g1 => with_reducible assumption); (case gx => with_reducible assumption)) | ((with_reducible show wpAny _ _ (eval (PySem.Expr.Name _ _) (compEnvC _ _ _ _)) _ _ _); k_dflt (refine LCgL.ld_own (by k_asm) (by k_mem) (by assumption) (by assumption) ?_)) | walk1 | (dsimp only; walk1) | (leave1; walk_say "STEP leave1"; try dsimp only)))
    · exact MEnd.intro F N _ (fun p hp => hp) off offI (FMC.all ⟨.tail _ hD, keep_mem (fun e he => .tail _ (hin e he))⟩) ⟨rfl, alike_t (by assumption)⟩
    · exact MEnd.intro F N _ (fun p hp => hp) off offI (FMC.all ⟨.tail _ hD, keep_mem (fun e he => .tail _ (hin e he))⟩) ⟨rfl, alike_f (by assumption)⟩
  case finA =>
    intro n' zs hz hzl
    intro D9 h9 tk9 q9 F9 N9 ne9 lt9
    clear ne9 lt9
    have hz5 : zs.length ≤ 50 := by rw [List.length_nil, Nat.zero_add] at hzl; exact Nat.le_trans hzl hpl
    (repeat' ((fail_if_success (first | (with_reducible show wpAny _ _ (call (Value.ref _) _) _ _ _) | (with_reducible show wpAny _ _ (pyIter _) _ _ _) | (with_reducible show UnrPost _ _ _ _ _ _ _ _ _) | (with_reducible show wpAny _ _ (exec (Stmt.Assign _ (PySem.Expr.ListComp _ _ _ _) _) _) _ _ _) | (with_reducible show wpAny _ _ (eval (PySem.Expr.ListComp _ _ _ _) _) _ _ _) | (with_reducible show wpAny _ _ (call (Value.type "zip") _) _ _ _) | (with_reducible show MEnd _ _ _ _ _ _ _ _ _ _ _ _ _) | (with_reducible show wpAny _ _ (exec (Stmt.For _ _ _ _ _) _) _ _ _) | (with_reducible show wpAny _ _ (exec (Stmt.While _ _ _ _) _) _ _ _) | (with_reducible show wpAny _ _ (eval (PySem.Expr.IfExp _ _ _ _) _) _ _ _))); first | (k_unfold; (try dsimp only)) | (k_end; wrow_close) | ((with_reducible show wpAny _ _ (truthy (Value.ref _)) _ _ _); (refine' kgr_truthy (lo := W.listOf (List.toArray _) _) ?gN ?gm ?gc ?gd ?gf ?_); (case gN => k_asm); (case gm => k_mem); (case gc => rfl); (case gd => rfl); (case gf => omega)) | walk1 | (dsimp only; walk1) | (leave1; walk_say "STEP leave1"; try dsimp only)))
    · have hany : ps.any (alike cor) = false := by
        (with_reducible rename List.isEmpty _ = true => hze)
        rw [hze] at hz; simpa using hz.symm
      refine step_frameW (by k_asm) (by k_asm) (fun G => ∀ t, G (.str (toldC cor ps) t)) (fun Q' hQ' => ?_) ?_
      · rcases told_x hc4 h05 hany with ⟨e1, e2⟩ | ⟨e1, e2⟩ | ⟨e1, e2⟩
        all_goals
          rw [e1]
          rw [e2] at hQ'
          walk1
          exact hQ' _ _ _ (by k_asm) (by k_asm)
      intro t9 h8 tk8 F8 N8
      (repeat' ((fail_if_success (first | (with_reducible show wpAny _ _ (call (Value.ref _) _) _ _ _) | (with_reducible show wpAny _ _ (pyIter _) _ _ _) | (with_reducible show UnrPost _ _ _ _ _ _ _ _ _) | (with_reducible show wpAny _ _ (exec (Stmt.Assign _ (PySem.Expr.ListComp _ _ _ _) _) _) _ _ _) | (with_reducible show wpAny _ _ (eval (PySem.Expr.ListComp _ _ _ _) _) _ _ _) | (with_reducible show wpAny _ _ (call (Value.type "zip") _) _ _ _) | (with_reducible show MEnd _ _ _ _ _ _ _ _ _ _ _ _ _) | (with_reducible show wpAny _ _ (exec (Stmt.For _ _ _ _ _) _) _ _ _) | (with_reducible show wpAny _ _ (exec (Stmt.While _ _ _ _) _) _ _ _) | (with_reducible show wpAny _ _ (eval (PySem.Expr.IfExp _ _ _ _) _) _ _ _))); first | (k_unfold; (try dsimp only)) | (k_end; wrow_close) | walk1 | (dsimp only; walk1) | (leave1; walk_say "STEP leave1"; try dsimp only)))
      exact hret _ _ _ (by k_asm) (newsSub (by k_asm) (fun p hp => .tail _ (.tail _ hp)))
    · have hany : ps.any (alike cor) = true := by
        (with_reducible rename List.isEmpty _ = false => hze)
        rw [hze] at hz; simpa using hz
      have e2 : toldC cor ps = PySem.Str.ofString "" := if_pos hany
      rw [e2] at hret
      exact hret _ _ _ (by k_asm) (newsSub (by k_asm) (fun p hp => .tail _ (.tail _ hp)))
set_option compiler.extract_closed false
set_option maxRecDepth 100000 in
set_option maxHeartbeats 4000000 in
theorem bytext {w : World} {news : Led} (x : PySem.Str) (hx : x.length ≤ 100) (tx : Tok) :
   CW K02 P02 w H02 91 60 600 news [.str x tx] (fun G => ∀ (D : Addr) t u, (∀ q ∈ news, q.1 < D) → G (.ref D) ((D, tup [.str (byTF x) t, .int (byT 4 x 0).2 u]) :: news)) := by
  have hlaw : (fun (_ : OpenLaw) (_ : Params → Frag) => True) Challenge.rw_pg0168_02 hdA.heap_1_1 := by k_fill; exact True.intro
  clear hlaw
  intro p loose mean mg mb dp un gd cn cs L a ccd cl outer A₀ base h₀ m s Q E B F X N T hH hcs hdp hun hret
  obtain ⟨ck, cnm, cg, cc, cm⟩ := cs
  obtain rfl : ck = .function := hcs
  obtain ⟨hH1, hH2⟩ := hH
  replace X : (hdA.heap_1_1 w.params).In h₀ := X
  refine wpAny_call ?_
  k_dflt k_enter
  (repeat' ((fail_if_success (first | (with_reducible show wpAny _ _ (call (Value.ref _) _) _ _ _) | (with_reducible show wpAny _ _ (pyIter _) _ _ _) | (with_reducible show UnrPost _ _ _ _ _ _ _ _ _) | (with_reducible show wpAny _ _ (exec (Stmt.Assign _ (PySem.Expr.ListComp _ _ _ _) _) _) _ _ _) | (with_reducible show wpAny _ _ (eval (PySem.Expr.ListComp _ _ _ _) _) _ _ _) | (with_reducible show wpAny _ _ (call (Value.type "zip") _) _ _ _) | (with_reducible show MEnd _ _ _ _ _ _ _ _ _ _ _ _ _) | (with_reducible show wpAny _ _ (exec (Stmt.For _ _ _ _ _) _) _ _ _) | (with_reducible show wpAny _ _ (exec (Stmt.While _ _ _ _) _) _ _ _) | (with_reducible show wpAny _ _ (eval (PySem.Expr.IfExp _ _ _ _) _) _ _ _))); first | (k_unfold; (try dsimp only)) | (k_end; wrow_close) | ((with_reducible show wpAny _ _ (storeName _ _ _) _ _ _); k_dflt (refine' storeX_L ?F ?N ?_ ?a ?b; (case F => k_asm); (case N => k_asm); (case a => rfl); (case b => rfl); k_whole; intro _ _ _; (try k_sweep))) | walk1 | (dsimp only; walk1) | (leave1; walk_say "STEP leave1"; try dsimp only)))
  rename_i g1 L1 hA FG1 B1 X1 T1 hB
  (with_reducible rename Fr _ _ _ _ => lF)
  with_unfolding_all refine' For_invVF lF ?k1 ?k2 ?_
  case k1 => exact rfl
  case k2 => exact rfl
  (repeat' ((fail_if_success (first | (with_reducible show wpAny _ _ (call (Value.ref _) _) _ _ _) | (with_reducible show wpAny _ _ (pyIter _) _ _ _) | (with_reducible show UnrPost _ _ _ _ _ _ _ _ _) | (with_reducible show wpAny _ _ (exec (Stmt.Assign _ (PySem.Expr.ListComp _ _ _ _) _) _) _ _ _) | (with_reducible show wpAny _ _ (eval (PySem.Expr.ListComp _ _ _ _) _) _ _ _) | (with_reducible show wpAny _ _ (call (Value.type "zip") _) _ _ _) | (with_reducible show MEnd _ _ _ _ _ _ _ _ _ _ _ _ _) | (with_reducible show wpAny _ _ (exec (Stmt.For _ _ _ _ _) _) _ _ _) | (with_reducible show wpAny _ _ (exec (Stmt.While _ _ _ _) _) _ _ _) | (with_reducible show wpAny _ _ (eval (PySem.Expr.IfExp _ _ _ _) _) _ _ _))); first | (k_unfold; (try dsimp only)) | (k_end; wrow_close) | walk1 | (dsimp only; walk1) | (leave1; walk_say "STEP leave1"; try dsimp only)))
  refine' iter_rangeUnr (n := 4) (a₀ := 0) (b₀ := 4) rfl (by assumption) (by decide) (by decide) ?Fc (by k_asm) ?restc
  case Fc => k_asm
  case restc =>
    intro I hI
    refine RangeIndQ (fun k _ m nw => BtP news (byT 4 x 0) k m nw) ?turnc ?donec _ _ _ _ ?startc
    case startc => exact fun _ kk => kk x 0 _ _ rfl hx rfl rfl
    case donec =>
      intro i m nw hP
      apply hP
      clear hP
      intro y n ty tn hR hy z1 z2 h9 tk9 F9 N9
      rw [mx2 z1 z2] at F9
      have hR' : byT 4 x 0 = (y, n) := hR.symm
      have hBF : byTF x = if y.length = 1 then y else PySem.Str.ofString "" := by rw [byTF, hR']
      have hN2 : (byT 4 x 0).2 = n := by rw [hR']
      rw [hN2] at hret
      dsimp only
      (repeat' ((fail_if_success (first | (with_reducible show wpAny _ _ (call (Value.ref _) _) _ _ _) | (with_reducible show wpAny _ _ (pyIter _) _ _ _) | (with_reducible show UnrPost _ _ _ _ _ _ _ _ _) | (with_reducible show wpAny _ _ (exec (Stmt.Assign _ (PySem.Expr.ListComp _ _ _ _) _) _) _ _ _) | (with_reducible show wpAny _ _ (eval (PySem.Expr.ListComp _ _ _ _) _) _ _ _) | (with_reducible show wpAny _ _ (call (Value.type "zip") _) _ _ _) | (with_reducible show MEnd _ _ _ _ _ _ _ _ _ _ _ _ _) | (with_reducible show wpAny _ _ (exec (Stmt.For _ _ _ _ _) _) _ _ _) | (with_reducible show wpAny _ _ (exec (Stmt.While _ _ _ _) _) _ _ _) | (with_reducible show wpAny _ _ (eval (PySem.Expr.IfExp _ _ _ _) _) _ _ _))); first | (k_unfold; (try dsimp only)) | (k_end; wrow_close) | walk1 | (dsimp only; walk1) | (leave1; walk_say "STEP leave1"; try dsimp only)))
      refine step_frameW (by k_asm) (by k_asm) (fun G => ∀ t, G (.str (byTF x) t)) (fun Q' hQ' => ?_) ?_
      · by_cases h1 : y.length = 1
        · rw [hBF, if_pos h1] at hQ'
          have h1' : ((y.length : Nat) : Int) = 1 := by rw [h1]; rfl
          walk1
          (repeat' ((fail_if_success (first | (with_reducible show wpAny _ _ (call (Value.ref _) _) _ _ _) | (with_reducible show wpAny _ _ (pyIter _) _ _ _) | (with_reducible show UnrPost _ _ _ _ _ _ _ _ _) | (with_reducible show wpAny _ _ (exec (Stmt.Assign _ (PySem.Expr.ListComp _ _ _ _) _) _) _ _ _) | (with_reducible show wpAny _ _ (eval (PySem.Expr.ListComp _ _ _ _) _) _ _ _) | (with_reducible show wpAny _ _ (call (Value.type "zip") _) _ _ _) | (with_reducible show MEnd _ _ _ _ _ _ _ _ _ _ _ _ _) | (with_reducible show wpAny _ _ (exec (Stmt.For _ _ _ _ _) _) _ _ _) | (with_reducible show wpAny _ _ (exec (Stmt.While _ _ _ _) _) _ _ _) | (with_reducible show wpAny _ _ (eval (PySem.Expr.IfExp _ _ _ _) _) _ _ _))); first | (k_unfold; (try dsimp only)) | (k_end; wrow_close) | ((with_reducible show wpAny _ _ (call (Value.builtin "len") [(Value.str _ _)]) _ _ _); refine len_str (by omega) ?_) | ((with_reducible show ite _ _ _); refine ite_pos (by first | omega | (simp only [beq_iff_eq, bne_iff_ne, decide_eq_true_eq, Int.not_lt, Int.not_le]; omega)) ?_) | ((with_reducible show wpAny _ _ (eval (PySem.Expr.Name _ _) (envOf _ _ _ _ _)) _ _ _); k_dflt (refine' nameX_L ?F ?v ?_ ?a ?b; (case F => k_asm); (case a => rfl); (case b => rfl); (case v => rfl); k_whole)) | walk1 | (dsimp only; walk1) | (leave1; walk_say "STEP leave1"; try dsimp only)))
          exact hQ' _ _ _ (by k_asm) (by k_asm)
        · rw [hBF, if_neg h1] at hQ'
          have h1' : ¬ ((y.length : Nat) : Int) = 1 := by omega
          walk1
          (repeat' ((fail_if_success (first | (with_reducible show wpAny _ _ (call (Value.ref _) _) _ _ _) | (with_reducible show wpAny _ _ (pyIter _) _ _ _) | (with_reducible show UnrPost _ _ _ _ _ _ _ _ _) | (with_reducible show wpAny _ _ (exec (Stmt.Assign _ (PySem.Expr.ListComp _ _ _ _) _) _) _ _ _) | (with_reducible show wpAny _ _ (eval (PySem.Expr.ListComp _ _ _ _) _) _ _ _) | (with_reducible show wpAny _ _ (call (Value.type "zip") _) _ _ _) | (with_reducible show MEnd _ _ _ _ _ _ _ _ _ _ _ _ _) | (with_reducible show wpAny _ _ (exec (Stmt.For _ _ _ _ _) _) _ _ _) | (with_reducible show wpAny _ _ (exec (Stmt.While _ _ _ _) _) _ _ _) | (with_reducible show wpAny _ _ (eval (PySem.Expr.IfExp _ _ _ _) _) _ _ _))); first | (k_unfold; (try dsimp only)) | (k_end; wrow_close) | ((with_reducible show wpAny _ _ (call (Value.builtin "len") [(Value.str _ _)]) _ _ _); refine len_str (by omega) ?_) | ((with_reducible show ite _ _ _); refine ite_neg (by first | omega | (simp only [beq_iff_eq, bne_iff_ne, decide_eq_true_eq, Int.not_lt, Int.not_le]; omega)) ?_) | ((with_reducible show wpAny _ _ (eval (PySem.Expr.Name _ _) (envOf _ _ _ _ _)) _ _ _); k_dflt (refine' nameX_L ?F ?v ?_ ?a ?b; (case F => k_asm); (case a => rfl); (case b => rfl); (case v => rfl); k_whole)) | walk1 | (dsimp only; walk1) | (leave1; walk_say "STEP leave1"; try dsimp only)))
          exact hQ' _ _ _ (by k_asm) (by k_asm)
      intro t9 h8 tk8 F8 N8
      (repeat' ((fail_if_success (first | (with_reducible show wpAny _ _ (call (Value.ref _) _) _ _ _) | (with_reducible show wpAny _ _ (pyIter _) _ _ _) | (with_reducible show UnrPost _ _ _ _ _ _ _ _ _) | (with_reducible show wpAny _ _ (exec (Stmt.Assign _ (PySem.Expr.ListComp _ _ _ _) _) _) _ _ _) | (with_reducible show wpAny _ _ (eval (PySem.Expr.ListComp _ _ _ _) _) _ _ _) | (with_reducible show wpAny _ _ (call (Value.type "zip") _) _ _ _) | (with_reducible show MEnd _ _ _ _ _ _ _ _ _ _ _ _ _) | (with_reducible show wpAny _ _ (exec (Stmt.For _ _ _ _ _) _) _ _ _) | (with_reducible show wpAny _ _ (exec (Stmt.While _ _ _ _) _) _ _ _) | (with_reducible show wpAny _ _ (eval (PySem.Expr.IfExp _ _ _ _) _) _ _ _))); first | (k_unfold; (try dsimp only)) | (k_end; wrow_close) | ((with_reducible show wpAny _ _ (newTuple _) _ _ _); (k_dflt (refine' kup_newTuple ?gF9 ?gN9 ?_ ?gz9; (case gF9 => k_asm); (case gN9 => k_asm); (case gz9 => exact Nat.le_of_ble_eq_true rfl)); intro _ _ _ _; walk_at "MINE ltI")) | ((with_reducible show wpAny _ _ (eval (PySem.Expr.Name _ _) (envOf _ _ _ _ _)) _ _ _); k_dflt (refine' nameX_L ?F ?v ?_ ?a ?b; (case F => k_asm); (case a => rfl); (case b => rfl); (case v => rfl); k_whole)) | walk1 | (dsimp only; walk1) | (leave1; walk_say "STEP leave1"; try dsimp only)))
      exact hret _ _ _ (by (repeat' ((with_reducible rename AllLt _ _ => z1); first | exact all_lt z1 (by omega) | clear z1))) _ _ (by k_asm) (by k_asm)
    case turnc =>
      intro k i m nw hP
      apply hP
      clear hP
      intro y n ty tn hR hy z1 z2 t it h9 tk9 Q9 E9 hU F9 N9
      rw [mx2 z1 z2] at F9
      (repeat' ((fail_if_success (first | (with_reducible show wpAny _ _ (call (Value.ref _) _) _ _ _) | (with_reducible show wpAny _ _ (pyIter _) _ _ _) | (with_reducible show UnrPost _ _ _ _ _ _ _ _ _) | (with_reducible show wpAny _ _ (exec (Stmt.Assign _ (PySem.Expr.ListComp _ _ _ _) _) _) _ _ _) | (with_reducible show wpAny _ _ (eval (PySem.Expr.ListComp _ _ _ _) _) _ _ _) | (with_reducible show wpAny _ _ (call (Value.type "zip") _) _ _ _) | (with_reducible show MEnd _ _ _ _ _ _ _ _ _ _ _ _ _) | (with_reducible show wpAny _ _ (exec (Stmt.For _ _ _ _ _) _) _ _ _) | (with_reducible show wpAny _ _ (exec (Stmt.While _ _ _ _) _) _ _ _) | (with_reducible show wpAny _ _ (eval (PySem.Expr.IfExp _ _ _ _) _) _ _ _))); first | (k_unfold; (try dsimp only)) | (k_end; wrow_close) | ((with_reducible show wpAny _ _ (callWith _ (Value.ref _) _ _ _) _ _ _); (k_here; (k_dflt (refine' callWith_K ?k1 ?k2 ?_; (case k1 => k_asm); (case k2 => k_is); k_whole)))) | ((with_reducible show wpAny _ _ (eval (PySem.Expr.Name _ _) (envOf _ _ _ _ _)) _ _ _); k_dflt (refine' nameX_L ?F ?v ?_ ?a ?b; (case F => k_asm); (case a => rfl); (case b => rfl); (case v => rfl); k_whole)) | walk1 | (dsimp only; walk1) | (leave1; walk_say "STEP leave1"; try dsimp only)))
      refine' (repGW (w := w) ((St "(rg)", _), (St "b", _)) [((St "(gb)", _), (St "r", _)), ((St "(br)", _), (St "g", _)), ((St "(gr)", _), (St "-b", _)), ((St "(bg)", _), (St "-r", _)), ((St "(rb)", _), (St "-g", _))] y (repOk6 (Nat.le_trans hy (by decide))) (Nat.le_of_ble_eq_true rfl) _).use (K := K02) ?B1 ?F1 ?X1 ?N1 ?T1 ⟨hH1, hH2⟩ rfl ?hd1 ?hu1 ?_
      case N1 => k_asm
      case B1 => k_asm
      case F1 => k_asm
      case X1 => k_asm
      case T1 => k_asm
      case hd1 => ktr_room
      case hu1 => ktr_units
      intro y1 t1 hy1 h1 tk1 F1 N1
      replace hy1 : y1 = rep6S y := str_list hy1
      subst hy1
      have hyl := rep6_le y
      (repeat' ((fail_if_success (first | (with_reducible show wpAny _ _ (call (Value.ref _) _) _ _ _) | (with_reducible show wpAny _ _ (pyIter _) _ _ _) | (with_reducible show UnrPost _ _ _ _ _ _ _ _ _) | (with_reducible show wpAny _ _ (exec (Stmt.Assign _ (PySem.Expr.ListComp _ _ _ _) _) _) _ _ _) | (with_reducible show wpAny _ _ (eval (PySem.Expr.ListComp _ _ _ _) _) _ _ _) | (with_reducible show wpAny _ _ (call (Value.type "zip") _) _ _ _) | (with_reducible show MEnd _ _ _ _ _ _ _ _ _ _ _ _ _) | (with_reducible show wpAny _ _ (exec (Stmt.For _ _ _ _ _) _) _ _ _) | (with_reducible show wpAny _ _ (exec (Stmt.While _ _ _ _) _) _ _ _) | (with_reducible show wpAny _ _ (eval (PySem.Expr.IfExp _ _ _ _) _) _ _ _))); first | (k_unfold; (try dsimp only)) | (k_end; wrow_close) | ((with_reducible show wpAny _ _ (callWith _ (Value.ref _) _ _ _) _ _ _); (k_here; (k_dflt (refine' callWith_K ?k1 ?k2 ?_; (case k1 => k_asm); (case k2 => k_is); k_whole)))) | ((with_reducible show wpAny _ _ (eval (PySem.Expr.Name _ _) (envOf _ _ _ _ _)) _ _ _); k_dflt (refine' nameX_L ?F ?v ?_ ?a ?b; (case F => k_asm); (case a => rfl); (case b => rfl); (case v => rfl); k_whole)) | ((with_reducible show wpAny _ _ (storeName _ _ _) _ _ _); k_dflt (refine' storeX_L ?F ?N ?_ ?a ?b; (case F => k_asm); (case N => k_asm); (case a => rfl); (case b => rfl); k_whole; intro _ _ _; (try k_sweep))) | walk1 | (dsimp only; walk1) | (leave1; walk_say "STEP leave1"; try dsimp only)))
      refine' (repGW (w := w) ((St "-", _), (St "", _)) [] (rep6S y) (repOk1 (Nat.le_trans hyl (Nat.le_trans hy (by decide)))) (Nat.le_of_ble_eq_true rfl) _).use (K := K02) ?B2 ?F2 ?X2 ?N2 ?T2 ⟨hH1, hH2⟩ rfl ?hd2 ?hu2 ?_
      case N2 => k_asm
      case B2 => k_asm
      case F2 => k_asm
      case X2 => k_asm
      case T2 => k_asm
      case hd2 => ktr_room
      case hu2 => ktr_units
      intro y2 t2 hy2 h2 tk2 F2 N2
      replace hy2 : y2 = noMin (rep6S y) := str_list hy2
      subst hy2
      (repeat' ((fail_if_success (first | (with_reducible show wpAny _ _ (call (Value.ref _) _) _ _ _) | (with_reducible show wpAny _ _ (pyIter _) _ _ _) | (with_reducible show UnrPost _ _ _ _ _ _ _ _ _) | (with_reducible show wpAny _ _ (exec (Stmt.Assign _ (PySem.Expr.ListComp _ _ _ _) _) _) _ _ _) | (with_reducible show wpAny _ _ (eval (PySem.Expr.ListComp _ _ _ _) _) _ _ _) | (with_reducible show wpAny _ _ (call (Value.type "zip") _) _ _ _) | (with_reducible show MEnd _ _ _ _ _ _ _ _ _ _ _ _ _) | (with_reducible show wpAny _ _ (exec (Stmt.For _ _ _ _ _) _) _ _ _) | (with_reducible show wpAny _ _ (exec (Stmt.While _ _ _ _) _) _ _ _) | (with_reducible show wpAny _ _ (eval (PySem.Expr.IfExp _ _ _ _) _) _ _ _))); first | (k_unfold; (try dsimp only)) | (k_end; wrow_close) | ((with_reducible show wpAny _ _ (storeName _ _ _) _ _ _); k_dflt (refine' storeX_L ?F ?N ?_ ?a ?b; (case F => k_asm); (case N => k_asm); (case a => rfl); (case b => rfl); k_whole; intro _ _ _; (try k_sweep))) | walk1 | (dsimp only; walk1) | (leave1; walk_say "STEP leave1"; try dsimp only)))
      exact hU (by k_asm) (by k_asm) news (by (repeat' first | exact List.forall_mem_nil _ | refine FMC.all ⟨by k_mem, ?_⟩ | (intro p9 hp9; (repeat' first | assumption | refine List.Mem.tail _ ?_)))) (fun p hp => Nat.ne_of_lt (hI p hp)) (fun _ kk => kk (noMin (rep6S y)) _ _ _ hR (Nat.le_trans (noMin_le _) (Nat.le_trans hyl hy)) rfl rfl)
set_option compiler.extract_closed false
set_option maxRecDepth 100000 in
set_option maxHeartbeats 4000000 in
theorem bycol {w : World} {news : Led} (x : PySem.Str) (hx : x.cps.size ≤ 50) (hs : ∀ c ∈ x.cps.toList, isSg c) (k0 : Option Nat) (n0 : Int) (hR : colGo x.cps.toList [] 0 = some ([k0], n0)) (tx : Tok) :
   CW K02 P02 w H02 96 60 600 news [.str x tx] (fun G => ∀ (D : Addr) t u, (∀ q ∈ news, q.1 < D) → G (.ref D) ((D, tup [.str (letO k0) t, .int n0 u]) :: news)) := by
  have hlaw : (fun (_ : OpenLaw) (_ : Params → Frag) => True) Challenge.rw_pg0168_02 hdA.heap_1_1 := by k_fill; exact True.intro
  clear hlaw
  intro p loose mean mg mb dp un gd cn cs L a ccd cl outer A₀ base h₀ m s Q E B F X N T hH hcs hdp hun hret
  obtain ⟨ck, cnm, cg, cc, cm⟩ := cs
  obtain rfl : ck = .function := hcs
  obtain ⟨hH1, hH2⟩ := hH
  replace X : (hdA.heap_1_1 w.params).In h₀ := X
  refine wpAny_call ?_
  k_dflt k_enter
  (repeat' ((fail_if_success (first | (with_reducible show wpAny _ _ (call (Value.ref _) _) _ _ _) | (with_reducible show wpAny _ _ (pyIter _) _ _ _) | (with_reducible show UnrPost _ _ _ _ _ _ _ _ _) | (with_reducible show wpAny _ _ (exec (Stmt.Assign _ (PySem.Expr.ListComp _ _ _ _) _) _) _ _ _) | (with_reducible show wpAny _ _ (eval (PySem.Expr.ListComp _ _ _ _) _) _ _ _) | (with_reducible show wpAny _ _ (call (Value.type "zip") _) _ _ _) | (with_reducible show MEnd _ _ _ _ _ _ _ _ _ _ _ _ _) | (with_reducible show wpAny _ _ (exec (Stmt.For _ _ _ _ _) _) _ _ _) | (with_reducible show wpAny _ _ (exec (Stmt.While _ _ _ _) _) _ _ _) | (with_reducible show wpAny _ _ (eval (PySem.Expr.IfExp _ _ _ _) _) _ _ _) | (with_reducible show wpAny _ _ (compareOp .Eq (Value.ref _) (Value.ref _)) _ _ _) | (with_reducible show wpAny _ _ (compareOp .NotEq (Value.ref _) (Value.ref _)) _ _ _) | (with_reducible show wpAny _ _ (call (Value.builtin "tuple.index") _) _ _ _))); first | (k_unfold; (try dsimp only)) | (k_end; wrow_close) | ((with_reducible show wpAny _ _ (execs (_ :: _) _) _ _ _); (with_reducible refine wpAny_execs_cons ?_); try dsimp only) | ((with_reducible show wpAny _ _ (execs [] _) _ _ _); refine wpAny_execs_nil ?_; try dsimp only) | ((with_reducible show wpAny _ _ (storeName _ _ _) _ _ _); k_dflt (refine' storeX_L ?F ?N ?_ ?a ?b; (case F => k_asm); (case N => k_asm); (case a => rfl); (case b => rfl); k_whole; intro _ _ _; (try k_sweep))) | walk1 | (dsimp only; walk1) | (leave1; walk_say "STEP leave1"; try dsimp only)))
  rename_i g1 L1 hA FG1 B1 X1 Dp hA2 lp hB hC F1 N1
  refine wpAny_For ?_
  (repeat' ((fail_if_success (first | (with_reducible show wpAny _ _ (call (Value.ref _) _) _ _ _) | (with_reducible show wpAny _ _ (pyIter _) _ _ _) | (with_reducible show UnrPost _ _ _ _ _ _ _ _ _) | (with_reducible show wpAny _ _ (exec (Stmt.Assign _ (PySem.Expr.ListComp _ _ _ _) _) _) _ _ _) | (with_reducible show wpAny _ _ (eval (PySem.Expr.ListComp _ _ _ _) _) _ _ _) | (with_reducible show wpAny _ _ (call (Value.type "zip") _) _ _ _) | (with_reducible show MEnd _ _ _ _ _ _ _ _ _ _ _ _ _) | (with_reducible show wpAny _ _ (exec (Stmt.For _ _ _ _ _) _) _ _ _) | (with_reducible show wpAny _ _ (exec (Stmt.While _ _ _ _) _) _ _ _) | (with_reducible show wpAny _ _ (eval (PySem.Expr.IfExp _ _ _ _) _) _ _ _) | (with_reducible show wpAny _ _ (compareOp .Eq (Value.ref _) (Value.ref _)) _ _ _) | (with_reducible show wpAny _ _ (compareOp .NotEq (Value.ref _) (Value.ref _)) _ _ _) | (with_reducible show wpAny _ _ (call (Value.builtin "tuple.index") _) _ _ _))); first | (k_unfold; (try dsimp only)) | (k_end; wrow_close) | ((with_reducible show wpAny _ _ (execs (_ :: _) _) _ _ _); (with_reducible refine wpAny_execs_cons ?_); try dsimp only) | ((with_reducible show wpAny _ _ (execs [] _) _ _ _); refine wpAny_execs_nil ?_; try dsimp only) | ((with_reducible show wpAny _ _ (eval (PySem.Expr.Name _ _) (envOf _ _ _ _ _)) _ _ _); k_dflt (refine' nameX_L ?F ?v ?_ ?a ?b; (case F => k_asm); (case a => rfl); (case b => rfl); (case v => rfl); k_whole)) | walk1 | (dsimp only; walk1) | (leave1; walk_say "STEP leave1"; try dsimp only)))
  refine iter_strG rfl (by k_asm) (by k_asm) rfl rfl (by first | passes_own | with_unfolding_all passes_own) (fun I hI => ?_)
  refine SRestInd (CkP I news ([k0], n0)) ?turn ?done _ _ _ _ ?start
  case start => exact fun _ kk => kk [] Dp [] 0 [] 0 _ hR PileC.nil (Nat.succ_pos _) (fun k h => nomatch h) (fun q hq => ⟨Nat.ne_of_lt (hI q (.tail _ hq)), Nat.ne_of_lt (allLt_mem lp q hq)⟩) (Nat.ne_of_lt (hI _ (.head _))) (by rw [Array.length_toList]; exact Nat.le_trans (Nat.add_le_add_left hx 0) (by decide)) hs rfl rfl
  case done =>
    intro n m nw hP
    apply hP
    clear hP
    intro st Dp pv np led mi tm hg hp hn hk3 hoff hne hb hsg z1 z2 h9 tk9 q9 F9 N9
    rw [mx2 z1 z2] at F9
    have hst : st = [k0] ∧ mi = n0 := by
      have h := Option.some.inj hg
      exact ⟨congrArg Prod.fst h, congrArg Prod.snd h⟩
    obtain ⟨rfl, rfl⟩ := hst
    have hp' : PileC led n pv ([] ++ [k0]) := hp
    obtain ⟨p9, y9, rfl, hp0, hy⟩ := hp'.pop
    obtain rfl : p9 = [] := List.length_eq_zero_iff.mp hp0.1
    have hget : ([] ++ [y9])[(0 : Int).toNat]? = some y9 := rfl
    dsimp only
    (repeat' ((fail_if_success (first | (with_reducible show wpAny _ _ (call (Value.ref _) _) _ _ _) | (with_reducible show wpAny _ _ (pyIter _) _ _ _) | (with_reducible show UnrPost _ _ _ _ _ _ _ _ _) | (with_reducible show wpAny _ _ (exec (Stmt.Assign _ (PySem.Expr.ListComp _ _ _ _) _) _) _ _ _) | (with_reducible show wpAny _ _ (eval (PySem.Expr.ListComp _ _ _ _) _) _ _ _) | (with_reducible show wpAny _ _ (call (Value.type "zip") _) _ _ _) | (with_reducible show MEnd _ _ _ _ _ _ _ _ _ _ _ _ _) | (with_reducible show wpAny _ _ (exec (Stmt.For _ _ _ _ _) _) _ _ _) | (with_reducible show wpAny _ _ (exec (Stmt.While _ _ _ _) _) _ _ _) | (with_reducible show wpAny _ _ (eval (PySem.Expr.IfExp _ _ _ _) _) _ _ _) | (with_reducible show wpAny _ _ (compareOp .Eq (Value.ref _) (Value.ref _)) _ _ _) | (with_reducible show wpAny _ _ (compareOp .NotEq (Value.ref _) (Value.ref _)) _ _ _) | (with_reducible show wpAny _ _ (call (Value.builtin "tuple.index") _) _ _ _))); first | (k_unfold; (try dsimp only)) | (k_end; wrow_close) | ((with_reducible show wpAny _ _ (execs (_ :: _) _) _ _ _); (with_reducible refine wpAny_execs_cons ?_); try dsimp only) | ((with_reducible show wpAny _ _ (execs [] _) _ _ _); refine wpAny_execs_nil ?_; try dsimp only) | walk1 | (dsimp only; walk1) | (leave1; walk_say "STEP leave1"; try dsimp only)))
    refine step_frameW (by k_asm) (by k_asm) (fun G => ∀ t, G (.str (letO k0) t)) (fun Q' hQ' => ?_) ?_
    · cases k0 with
      | none =>
        obtain rfl := hy rfl
        walk1
        (repeat' ((fail_if_success (first | (with_reducible show wpAny _ _ (call (Value.ref _) _) _ _ _) | (with_reducible show wpAny _ _ (pyIter _) _ _ _) | (with_reducible show UnrPost _ _ _ _ _ _ _ _ _) | (with_reducible show wpAny _ _ (exec (Stmt.Assign _ (PySem.Expr.ListComp _ _ _ _) _) _) _ _ _) | (with_reducible show wpAny _ _ (eval (PySem.Expr.ListComp _ _ _ _) _) _ _ _) | (with_reducible show wpAny _ _ (call (Value.type "zip") _) _ _ _) | (with_reducible show MEnd _ _ _ _ _ _ _ _ _ _ _ _ _) | (with_reducible show wpAny _ _ (exec (Stmt.For _ _ _ _ _) _) _ _ _) | (with_reducible show wpAny _ _ (exec (Stmt.While _ _ _ _) _) _ _ _) | (with_reducible show wpAny _ _ (eval (PySem.Expr.IfExp _ _ _ _) _) _ _ _) | (with_reducible show wpAny _ _ (compareOp .Eq (Value.ref _) (Value.ref _)) _ _ _) | (with_reducible show wpAny _ _ (compareOp .NotEq (Value.ref _) (Value.ref _)) _ _ _) | (with_reducible show wpAny _ _ (call (Value.builtin "tuple.index") _) _ _ _))); first | (k_unfold; (try dsimp only)) | (k_end; wrow_close) | ((with_reducible show wpAny _ _ (subscriptTail _ _ (Value.ref _) (Value.int 0 _)) _ _ _); refine' my_at ?gN ?gm ?g0 ?g1 ?gx ?_; (case gN => k_asm); (case gm => k_mem); (case g0 => decide); (case g1 => decide); (case gx => with_reducible assumption)) | ((with_reducible show wpAny _ _ (execs (_ :: _) _) _ _ _); (with_reducible refine wpAny_execs_cons ?_); try dsimp only) | ((with_reducible show wpAny _ _ (execs [] _) _ _ _); refine wpAny_execs_nil ?_; try dsimp only) | ((with_reducible show ite _ _ _); refine ite_pos (by decide +kernel) ?_) | ((with_reducible show wpAny _ _ (eval (PySem.Expr.Name _ _) (envOf _ _ _ _ _)) _ _ _); k_dflt (refine' nameX_L ?F ?v ?_ ?a ?b; (case F => k_asm); (case a => rfl); (case b => rfl); (case v => rfl); k_whole)) | walk1 | (dsimp only; walk1) | (leave1; walk_say "STEP leave1"; try dsimp only)))
        exact hQ' _ _ _ (by k_asm) (by k_asm)
      | some k =>
        obtain ⟨A1, t1, t2, t3, rfl, hA1, hA2, hA3⟩ := hp'.one
        have hk : k < 3 := hk3 k (.head _)
        have mA1 : (A1, colO k t1 t2 t3) ∈ led ++ news := List.mem_append_left _ hA1
        walk1
        (repeat' ((fail_if_success (first | (with_reducible show wpAny _ _ (call (Value.ref _) _) _ _ _) | (with_reducible show wpAny _ _ (pyIter _) _ _ _) | (with_reducible show UnrPost _ _ _ _ _ _ _ _ _) | (with_reducible show wpAny _ _ (exec (Stmt.Assign _ (PySem.Expr.ListComp _ _ _ _) _) _) _ _ _) | (with_reducible show wpAny _ _ (eval (PySem.Expr.ListComp _ _ _ _) _) _ _ _) | (with_reducible show wpAny _ _ (call (Value.type "zip") _) _ _ _) | (with_reducible show MEnd _ _ _ _ _ _ _ _ _ _ _ _ _) | (with_reducible show wpAny _ _ (exec (Stmt.For _ _ _ _ _) _) _ _ _) | (with_reducible show wpAny _ _ (exec (Stmt.While _ _ _ _) _) _ _ _) | (with_reducible show wpAny _ _ (eval (PySem.Expr.IfExp _ _ _ _) _) _ _ _) | (with_reducible show wpAny _ _ (compareOp .Eq (Value.ref _) (Value.ref _)) _ _ _) | (with_reducible show wpAny _ _ (compareOp .NotEq (Value.ref _) (Value.ref _)) _ _ _) | (with_reducible show wpAny _ _ (call (Value.builtin "tuple.index") _) _ _ _))); first | (k_unfold; (try dsimp only)) | (k_end; wrow_close) | ((with_reducible show wpAny _ _ (subscriptTail _ _ (Value.ref _) (Value.int 0 _)) _ _ _); refine' my_at ?gN ?gm ?g0 ?g1 ?gx ?_; (case gN => k_asm); (case gm => k_mem); (case g0 => decide); (case g1 => decide); (case gx => with_reducible assumption)) | ((with_reducible show wpAny _ _ (execs (_ :: _) _) _ _ _); (with_reducible refine wpAny_execs_cons ?_); try dsimp only) | ((with_reducible show wpAny _ _ (execs [] _) _ _ _); refine wpAny_execs_nil ?_; try dsimp only) | ((with_reducible show ite _ _ _); refine ite_neg (by decide +kernel) ?_) | ((with_reducible show wpAny _ _ (eval (PySem.Expr.Name _ _) (envOf _ _ _ _ _)) _ _ _); k_dflt (refine' nameX_L ?F ?v ?_ ?a ?b; (case F => k_asm); (case a => rfl); (case b => rfl); (case v => rfl); k_whole)) | walk1 | (dsimp only; walk1) | (leave1; walk_say "STEP leave1"; try dsimp only)))
        refine my_tixM (by k_asm) (.tail _ mA1) ?_
        (repeat' ((fail_if_success (first | (with_reducible show wpAny _ _ (call (Value.ref _) _) _ _ _) | (with_reducible show wpAny _ _ (pyIter _) _ _ _) | (with_reducible show UnrPost _ _ _ _ _ _ _ _ _) | (with_reducible show wpAny _ _ (exec (Stmt.Assign _ (PySem.Expr.ListComp _ _ _ _) _) _) _ _ _) | (with_reducible show wpAny _ _ (eval (PySem.Expr.ListComp _ _ _ _) _) _ _ _) | (with_reducible show wpAny _ _ (call (Value.type "zip") _) _ _ _) | (with_reducible show MEnd _ _ _ _ _ _ _ _ _ _ _ _ _) | (with_reducible show wpAny _ _ (exec (Stmt.For _ _ _ _ _) _) _ _ _) | (with_reducible show wpAny _ _ (exec (Stmt.While _ _ _ _) _) _ _ _) | (with_reducible show wpAny _ _ (eval (PySem.Expr.IfExp _ _ _ _) _) _ _ _) | (with_reducible show wpAny _ _ (compareOp .Eq (Value.ref _) (Value.ref _)) _ _ _) | (with_reducible show wpAny _ _ (compareOp .NotEq (Value.ref _) (Value.ref _)) _ _ _) | (with_reducible show wpAny _ _ (call (Value.builtin "tuple.index") _) _ _ _))); first | (k_unfold; (try dsimp only)) | (k_end; wrow_close) | ((with_reducible show wpAny _ _ (execs (_ :: _) _) _ _ _); (with_reducible refine wpAny_execs_cons ?_); try dsimp only) | ((with_reducible show wpAny _ _ (execs [] _) _ _ _); refine wpAny_execs_nil ?_; try dsimp only) | walk1 | (dsimp only; walk1) | (leave1; walk_say "STEP leave1"; try dsimp only)))
        have ap : ∀ {y c : Tok}, y < n → tk9 ≤ c → y ≠ c := fun h h' => Nat.ne_of_lt (Nat.lt_of_lt_of_le h (Nat.le_trans q9 h'))
        have nz : ∀ {c : Tok}, tk9 ≤ c → c ≠ 0 := fun h => Nat.ne_of_gt (Nat.lt_of_lt_of_le hn (Nat.le_trans q9 h))
        show wpAny _ _ (call (Value.builtin "tuple.index") [Value.ref A1, Value.float f1 _]) _ _ _
        refine my_colIx (K := hdA.heap_1_1 w.params) (Frag.In.keeps (by k_asm) (Fr.keep (by k_asm))) (by rfl) (by k_asm) (.tail _ mA1) hk ⟨hA3.1, hA3.2.1, hA3.2.2, nz (by (repeat' first | exact Nat.le_refl _ | apply Nat.le_succ_of_le))⟩ ⟨ap hA2.1 (by (repeat' first | exact Nat.le_refl _ | apply Nat.le_succ_of_le)), ap hA2.2.1 (by (repeat' first | exact Nat.le_refl _ | apply Nat.le_succ_of_le)), ap hA2.2.2 (by (repeat' first | exact Nat.le_refl _ | apply Nat.le_succ_of_le))⟩ ?_
        rcases lt3 hk with rfl | rfl | rfl
        all_goals
          (repeat' ((fail_if_success (first | (with_reducible show wpAny _ _ (call (Value.ref _) _) _ _ _) | (with_reducible show wpAny _ _ (pyIter _) _ _ _) | (with_reducible show UnrPost _ _ _ _ _ _ _ _ _) | (with_reducible show wpAny _ _ (exec (Stmt.Assign _ (PySem.Expr.ListComp _ _ _ _) _) _) _ _ _) | (with_reducible show wpAny _ _ (eval (PySem.Expr.ListComp _ _ _ _) _) _ _ _) | (with_reducible show wpAny _ _ (call (Value.type "zip") _) _ _ _) | (with_reducible show MEnd _ _ _ _ _ _ _ _ _ _ _ _ _) | (with_reducible show wpAny _ _ (exec (Stmt.For _ _ _ _ _) _) _ _ _) | (with_reducible show wpAny _ _ (exec (Stmt.While _ _ _ _) _) _ _ _) | (with_reducible show wpAny _ _ (eval (PySem.Expr.IfExp _ _ _ _) _) _ _ _) | (with_reducible show wpAny _ _ (compareOp .Eq (Value.ref _) (Value.ref _)) _ _ _) | (with_reducible show wpAny _ _ (compareOp .NotEq (Value.ref _) (Value.ref _)) _ _ _) | (with_reducible show wpAny _ _ (call (Value.builtin "tuple.index") _) _ _ _))); first | (k_unfold; (try dsimp only)) | (k_end; wrow_close) | ((with_reducible show wpAny _ _ (execs (_ :: _) _) _ _ _); (with_reducible refine wpAny_execs_cons ?_); try dsimp only) | ((with_reducible show wpAny _ _ (execs [] _) _ _ _); refine wpAny_execs_nil ?_; try dsimp only) | walk1 | (dsimp only; walk1) | (leave1; walk_say "STEP leave1"; try dsimp only)))
          exact hQ' _ _ _ (by k_asm) (by k_asm)
    intro t9 h8 tk8 F8 N8
    (repeat' ((fail_if_success (first | (with_reducible show wpAny _ _ (call (Value.ref _) _) _ _ _) | (with_reducible show wpAny _ _ (pyIter _) _ _ _) | (with_reducible show UnrPost _ _ _ _ _ _ _ _ _) | (with_reducible show wpAny _ _ (exec (Stmt.Assign _ (PySem.Expr.ListComp _ _ _ _) _) _) _ _ _) | (with_reducible show wpAny _ _ (eval (PySem.Expr.ListComp _ _ _ _) _) _ _ _) | (with_reducible show wpAny _ _ (call (Value.type "zip") _) _ _ _) | (with_reducible show MEnd _ _ _ _ _ _ _ _ _ _ _ _ _) | (with_reducible show wpAny _ _ (exec (Stmt.For _ _ _ _ _) _) _ _ _) | (with_reducible show wpAny _ _ (exec (Stmt.While _ _ _ _) _) _ _ _) | (with_reducible show wpAny _ _ (eval (PySem.Expr.IfExp _ _ _ _) _) _ _ _) | (with_reducible show wpAny _ _ (compareOp .Eq (Value.ref _) (Value.ref _)) _ _ _) | (with_reducible show wpAny _ _ (compareOp .NotEq (Value.ref _) (Value.ref _)) _ _ _) | (with_reducible show wpAny _ _ (call (Value.builtin "tuple.index") _) _ _ _))); first | (k_unfold; (try dsimp only)) | (k_end; wrow_close) | ((with_reducible show wpAny _ _ (execs (_ :: _) _) _ _ _); (with_reducible refine wpAny_execs_cons ?_); try dsimp only) | ((with_reducible show wpAny _ _ (execs [] _) _ _ _); refine wpAny_execs_nil ?_; try dsimp only) | ((with_reducible show wpAny _ _ (newTuple _) _ _ _); (k_dflt (refine' kup_newTuple ?gF9 ?gN9 ?_ ?gz9; (case gF9 => k_asm); (case gN9 => k_asm); (case gz9 => exact Nat.le_of_ble_eq_true rfl)); intro _ _ _ _; walk_at "MINE ltI")) | ((with_reducible show wpAny _ _ (eval (PySem.Expr.Name _ _) (envOf _ _ _ _ _)) _ _ _); k_dflt (refine' nameX_L ?F ?v ?_ ?a ?b; (case F => k_asm); (case a => rfl); (case b => rfl); (case v => rfl); k_whole)) | walk1 | (dsimp only; walk1) | (leave1; walk_say "STEP leave1"; try dsimp only)))
    (with_reducible rename News _ _ _ _ => NZ)
    exact hret _ _ _ (fun q hq => allLt_mem (by assumption) q (List.mem_append_right _ hq)) _ _ (by k_asm) (newsSub NZ (FMC.all ⟨.head _, fun p hp => .tail _ (.tail _ (List.mem_append_right _ hp))⟩))
  case turn =>
    intro c r n m nw hP
    apply hP
    clear hP
    intro st Dp pv np led mi tm hg hp hn hk3 hoff hne hb hsg z1 z2 u it h9 tk9 Q9 q9 hU F9 N9
    rw [mx2 z1 z2] at F9
    have hn9 : 0 < tk9 := Nat.lt_of_lt_of_le hn q9
    have hfp : ∀ q ∈ led ++ news, q.1 ≠ Dp := fun q hq => (hoff q hq).2
    have hfi : ∀ q ∈ led ++ news, q.1 ≠ I := fun q hq => (hoff q hq).1
    have hpl : pv.length = st.length := by rw [hp.1, List.length_reverse]
    have hps : pv.toArray.size ≤ sizeLine := by rw [List.size_toArray, hpl, PySem.sizeLine_eq]; exact Nat.le_trans (Nat.le_trans (Nat.le_add_right _ _) hb) (by decide)
    rcases hsg c (.head _) with rfl | rfl | hc
    · have hc4 : (40 : Nat) = 40 ∨ (40 : Nat) = 41 := .inl rfl
      rw [colGo_40] at hg
      (repeat' ((fail_if_success (first | (with_reducible show wpAny _ _ (call (Value.ref _) _) _ _ _) | (with_reducible show wpAny _ _ (pyIter _) _ _ _) | (with_reducible show UnrPost _ _ _ _ _ _ _ _ _) | (with_reducible show wpAny _ _ (exec (Stmt.Assign _ (PySem.Expr.ListComp _ _ _ _) _) _) _ _ _) | (with_reducible show wpAny _ _ (eval (PySem.Expr.ListComp _ _ _ _) _) _ _ _) | (with_reducible show wpAny _ _ (call (Value.type "zip") _) _ _ _) | (with_reducible show MEnd _ _ _ _ _ _ _ _ _ _ _ _ _) | (with_reducible show wpAny _ _ (exec (Stmt.For _ _ _ _ _) _) _ _ _) | (with_reducible show wpAny _ _ (exec (Stmt.While _ _ _ _) _) _ _ _) | (with_reducible show wpAny _ _ (eval (PySem.Expr.IfExp _ _ _ _) _) _ _ _) | (with_reducible show wpAny _ _ (compareOp .Eq (Value.ref _) (Value.ref _)) _ _ _) | (with_reducible show wpAny _ _ (compareOp .NotEq (Value.ref _) (Value.ref _)) _ _ _) | (with_reducible show wpAny _ _ (call (Value.builtin "tuple.index") _) _ _ _))); first | (k_unfold; (try dsimp only)) | (k_end; wrow_close) | ((with_reducible show wpAny _ _ (execs (_ :: _) _) _ _ _); (with_reducible refine wpAny_execs_cons ?_); try dsimp only) | ((with_reducible show wpAny _ _ (execs [] _) _ _ _); refine wpAny_execs_nil ?_; try dsimp only) | (with_reducible refine my_inN (by with_reducible assumption) ?_) | ((with_reducible show ite _ _ _); refine ite_neg (by decide +kernel) ?_) | ((with_reducible show wpAny _ _ (compareOp .Eq (Value.str _ _) (Value.str _ _)) _ _ _); refine my_eq1 ?_) | ((with_reducible show wpAny _ _ (eval (PySem.Expr.Name _ _) (envOf _ _ _ _ _)) _ _ _); k_dflt (refine' nameX_L ?F ?v ?_ ?a ?b; (case F => k_asm); (case a => rfl); (case b => rfl); (case v => rfl); k_whole)) | walk1 | (dsimp only; walk1) | (leave1; walk_say "STEP leave1"; try dsimp only)))
      exact hU (by k_asm) (by k_asm) ((Dp, W.listOf pv.toArray np) :: (led ++ news)) (fun p hp => hp) (FMC.all ⟨hne, hfi⟩) (fun _ kk => kk st Dp pv np led mi _ hg (PileC.mono (fun p hp => hp) (Nat.le_trans q9 (by (repeat' first | exact Nat.le_refl _ | apply Nat.le_succ_of_le))) hp) (Nat.lt_of_lt_of_le hn9 (by (repeat' first | exact Nat.le_refl _ | apply Nat.le_succ_of_le))) hk3 hoff hne (Nat.le_of_succ_le hb) (fun c hc => hsg c (.tail _ hc)) rfl rfl)
    · obtain ⟨a, b, s', rfl, hg'⟩ := colGo_41 hg
      have hc4 : (41 : Nat) = 40 ∨ (41 : Nat) = 41 := .inr rfl
      rw [List.reverse_cons, List.reverse_cons] at hp
      obtain ⟨p1, y1, hpe1, hp1, hb1⟩ := hp.pop
      subst hpe1
      obtain ⟨p2, y2, hpe2, hp2, ha2⟩ := hp1.pop
      subst hpe2
      have he1 : (p2 ++ [y2]) ++ [y1] = (p2 ++ [y2]) ++ [y1] := rfl
      have he2 : p2 ++ [y2] = p2 ++ [y2] := rfl
      have hlen : p2.length + 2 ≤ 100 := by
        rw [List.length_append, List.length_append, List.length_singleton, List.length_singleton] at hpl
        rw [hpl]; exact Nat.le_trans (Nat.le_add_right _ _) hb
      have hz1 : ((p2 ++ [y2]) ++ [y1]).length ≤ 1000 := by rw [List.length_append, List.length_append, List.length_singleton, List.length_singleton]; omega
      have hz2 : (p2 ++ [y2]).length ≤ 1000 := by rw [List.length_append, List.length_singleton]; omega
      have hz3 : p2.toArray.size ≤ sizeLine := by rw [List.size_toArray, PySem.sizeLine_eq]; omega
      have hb2 : s'.length + 1 + r.length ≤ 100 := by rw [List.length_cons, List.length_cons, List.length_cons] at hb; omega
      clear hg hps hpl hb
      cases a with
      | none =>
        obtain rfl := ha2 rfl
        (repeat' ((fail_if_success (first | (with_reducible show wpAny _ _ (call (Value.ref _) _) _ _ _) | (with_reducible show wpAny _ _ (pyIter _) _ _ _) | (with_reducible show UnrPost _ _ _ _ _ _ _ _ _) | (with_reducible show wpAny _ _ (exec (Stmt.Assign _ (PySem.Expr.ListComp _ _ _ _) _) _) _ _ _) | (with_reducible show wpAny _ _ (eval (PySem.Expr.ListComp _ _ _ _) _) _ _ _) | (with_reducible show wpAny _ _ (call (Value.type "zip") _) _ _ _) | (with_reducible show MEnd _ _ _ _ _ _ _ _ _ _ _ _ _) | (with_reducible show wpAny _ _ (exec (Stmt.For _ _ _ _ _) _) _ _ _) | (with_reducible show wpAny _ _ (exec (Stmt.While _ _ _ _) _) _ _ _) | (with_reducible show wpAny _ _ (eval (PySem.Expr.IfExp _ _ _ _) _) _ _ _) | (with_reducible show wpAny _ _ (compareOp .Eq (Value.ref _) (Value.ref _)) _ _ _) | (with_reducible show wpAny _ _ (compareOp .NotEq (Value.ref _) (Value.ref _)) _ _ _) | (with_reducible show wpAny _ _ (call (Value.builtin "tuple.index") _) _ _ _))); first | (k_unfold; (try dsimp only)) | (k_end; wrow_close) | ((with_reducible show wpAny _ _ (execs (_ :: _) _) _ _ _); (with_reducible refine wpAny_execs_cons ?_); try dsimp only) | ((with_reducible show wpAny _ _ (execs [] _) _ _ _); refine wpAny_execs_nil ?_; try dsimp only) | (with_reducible refine my_inN (by with_reducible assumption) ?_) | ((with_reducible show wpAny _ _ (call (Value.builtin "list.append") [(Value.ref _), _]) _ _ _); (k_dflt (refine' append_K ?gF ?gN ?gU ?_ ?gz; (case gF => k_asm); (case gN => k_asm); (case gU => k_upd); (case gz => with_reducible assumption); k_whole)); intro _ _ _) | ((with_reducible show wpAny _ _ (call (Value.builtin "list.pop") _) _ _ _); (refine' my_pop ?gF ?gN ?ge ?gU ?gz ?_; (case gF => k_asm); (case gN => k_asm); (case gU => k_upd); (case ge => with_reducible assumption); (case gz => with_reducible assumption)); intro _ _ _) | ((with_reducible show ite _ _ _); refine ite_pos (by decide +kernel) ?_) | ((with_reducible show ite _ _ _); refine ite_neg (by decide +kernel) ?_) | ((with_reducible show wpAny _ _ (compareOp .Eq (Value.str _ _) (Value.str _ _)) _ _ _); refine my_eq1 ?_) | ((with_reducible show wpAny _ _ (eval (PySem.Expr.Name _ _) (envOf _ _ _ _ _)) _ _ _); k_dflt (refine' nameX_L ?F ?v ?_ ?a ?b; (case F => k_asm); (case a => rfl); (case b => rfl); (case v => rfl); k_whole)) | ((with_reducible show wpAny _ _ (storeName _ _ _) _ _ _); k_dflt (refine' storeX_L ?F ?N ?_ ?a ?b; (case F => k_asm); (case N => k_asm); (case a => rfl); (case b => rfl); k_whole; intro _ _ _; (try k_sweep))) | walk1 | (dsimp only; walk1) | (leave1; walk_say "STEP leave1"; try dsimp only)))
        (with_reducible rename News _ _ _ _ => NZ)
        rw [List.push_toArray] at NZ
        exact hU (by k_asm) NZ ((Dp, W.listOf (p2 ++ [Value.none]).toArray (np + 1 + 1 + 1)) :: (led ++ news)) (by (repeat' first | exact List.forall_mem_nil _ | refine FMC.all ⟨by k_mem, ?_⟩ | (intro p9 hp9; (repeat' first | assumption | refine List.Mem.tail _ ?_)))) (FMC.all ⟨hne, hfi⟩)
          (fun _ kk => kk (none :: s') Dp _ _ led mi _ (col_none hg') (by rw [List.reverse_cons]; exact PileC.non (PileC.mono (fun p hp => hp) (Nat.le_trans q9 (by (repeat' first | exact Nat.le_refl _ | apply Nat.le_succ_of_le))) hp2)) (Nat.lt_of_lt_of_le hn9 (by (repeat' first | exact Nat.le_refl _ | apply Nat.le_succ_of_le))) (k3_non hk3) hoff hne hb2 (fun c hc => hsg c (.tail _ hc)) rfl rfl)
      | some i =>
        have hi3 : i < 3 := hk3 i (.tail _ (.head _))
        cases b with
        | none =>
          obtain rfl := hb1 rfl
          obtain ⟨A1, t1, t2, t3, rfl, hA1, hA2, hA3⟩ := hp1.one
          (repeat' ((fail_if_success (first | (with_reducible show wpAny _ _ (call (Value.ref _) _) _ _ _) | (with_reducible show wpAny _ _ (pyIter _) _ _ _) | (with_reducible show UnrPost _ _ _ _ _ _ _ _ _) | (with_reducible show wpAny _ _ (exec (Stmt.Assign _ (PySem.Expr.ListComp _ _ _ _) _) _) _ _ _) | (with_reducible show wpAny _ _ (eval (PySem.Expr.ListComp _ _ _ _) _) _ _ _) | (with_reducible show wpAny _ _ (call (Value.type "zip") _) _ _ _) | (with_reducible show MEnd _ _ _ _ _ _ _ _ _ _ _ _ _) | (with_reducible show wpAny _ _ (exec (Stmt.For _ _ _ _ _) _) _ _ _) | (with_reducible show wpAny _ _ (exec (Stmt.While _ _ _ _) _) _ _ _) | (with_reducible show wpAny _ _ (eval (PySem.Expr.IfExp _ _ _ _) _) _ _ _) | (with_reducible show wpAny _ _ (compareOp .Eq (Value.ref _) (Value.ref _)) _ _ _) | (with_reducible show wpAny _ _ (compareOp .NotEq (Value.ref _) (Value.ref _)) _ _ _) | (with_reducible show wpAny _ _ (call (Value.builtin "tuple.index") _) _ _ _))); first | (k_unfold; (try dsimp only)) | (k_end; wrow_close) | ((with_reducible show wpAny _ _ (execs (_ :: _) _) _ _ _); (with_reducible refine wpAny_execs_cons ?_); try dsimp only) | ((with_reducible show wpAny _ _ (execs [] _) _ _ _); refine wpAny_execs_nil ?_; try dsimp only) | (with_reducible refine my_inN (by with_reducible assumption) ?_) | ((with_reducible show wpAny _ _ (call (Value.builtin "list.append") [(Value.ref _), _]) _ _ _); (k_dflt (refine' append_K ?gF ?gN ?gU ?_ ?gz; (case gF => k_asm); (case gN => k_asm); (case gU => k_upd); (case gz => with_reducible assumption); k_whole)); intro _ _ _) | ((with_reducible show wpAny _ _ (call (Value.builtin "list.pop") _) _ _ _); (refine' my_pop ?gF ?gN ?ge ?gU ?gz ?_; (case gF => k_asm); (case gN => k_asm); (case gU => k_upd); (case ge => with_reducible assumption); (case gz => with_reducible assumption)); intro _ _ _) | ((with_reducible show ite _ _ _); refine ite_pos (by decide +kernel) ?_) | ((with_reducible show ite _ _ _); refine ite_neg (by decide +kernel) ?_) | ((with_reducible show wpAny _ _ (compareOp .Eq (Value.str _ _) (Value.str _ _)) _ _ _); refine my_eq1 ?_) | walk1 | (dsimp only; walk1) | (leave1; walk_say "STEP leave1"; try dsimp only)))
          (with_reducible rename News _ _ _ _ => NZ)
          rw [List.push_toArray] at NZ
          exact hU (by k_asm) NZ ((Dp, W.listOf (p2 ++ [Value.none]).toArray (np + 1 + 1 + 1)) :: (led ++ news)) (by (repeat' first | exact List.forall_mem_nil _ | refine FMC.all ⟨by k_mem, ?_⟩ | (intro p9 hp9; (repeat' first | assumption | refine List.Mem.tail _ ?_)))) (FMC.all ⟨hne, hfi⟩)
            (fun _ kk => kk (none :: s') Dp _ _ led mi _ (col_none2 hg') (by rw [List.reverse_cons]; exact PileC.non (PileC.mono (fun p hp => hp) (Nat.le_trans q9 (by (repeat' first | exact Nat.le_refl _ | apply Nat.le_succ_of_le))) hp2)) (Nat.lt_of_lt_of_le hn9 (by (repeat' first | exact Nat.le_refl _ | apply Nat.le_succ_of_le))) (k3_non hk3) hoff hne hb2 (fun c hc => hsg c (.tail _ hc)) rfl rfl)
        | some j =>
          have hj3 : j < 3 := hk3 j (.head _)
          obtain ⟨A1, A2, t1, t2, t3, t4, t5, t6, rfl, rfl, hA1, hA2, hA3, hA4, ok⟩ := hp.two
          have mA1 : (A1, colO i t1 t2 t3) ∈ led ++ news := List.mem_append_left _ hA1
          have mA2 : (A2, colO j t4 t5 t6) ∈ led ++ news := List.mem_append_left _ hA2
          (repeat' ((fail_if_success (first | (with_reducible show wpAny _ _ (call (Value.ref _) _) _ _ _) | (with_reducible show wpAny _ _ (pyIter _) _ _ _) | (with_reducible show UnrPost _ _ _ _ _ _ _ _ _) | (with_reducible show wpAny _ _ (exec (Stmt.Assign _ (PySem.Expr.ListComp _ _ _ _) _) _) _ _ _) | (with_reducible show wpAny _ _ (eval (PySem.Expr.ListComp _ _ _ _) _) _ _ _) | (with_reducible show wpAny _ _ (call (Value.type "zip") _) _ _ _) | (with_reducible show MEnd _ _ _ _ _ _ _ _ _ _ _ _ _) | (with_reducible show wpAny _ _ (exec (Stmt.For _ _ _ _ _) _) _ _ _) | (with_reducible show wpAny _ _ (exec (Stmt.While _ _ _ _) _) _ _ _) | (with_reducible show wpAny _ _ (eval (PySem.Expr.IfExp _ _ _ _) _) _ _ _) | (with_reducible show wpAny _ _ (compareOp .Eq (Value.ref _) (Value.ref _)) _ _ _) | (with_reducible show wpAny _ _ (compareOp .NotEq (Value.ref _) (Value.ref _)) _ _ _) | (with_reducible show wpAny _ _ (call (Value.builtin "tuple.index") _) _ _ _))); first | (k_unfold; (try dsimp only)) | (k_end; wrow_close) | ((with_reducible show wpAny _ _ (execs (_ :: _) _) _ _ _); (with_reducible refine wpAny_execs_cons ?_); try dsimp only) | ((with_reducible show wpAny _ _ (execs [] _) _ _ _); refine wpAny_execs_nil ?_; try dsimp only) | (with_reducible refine my_inN (by with_reducible assumption) ?_) | ((with_reducible show wpAny _ _ (call (Value.builtin "list.pop") _) _ _ _); (refine' my_pop ?gF ?gN ?ge ?gU ?gz ?_; (case gF => k_asm); (case gN => k_asm); (case gU => k_upd); (case ge => with_reducible assumption); (case gz => with_reducible assumption)); intro _ _ _) | ((with_reducible show ite _ _ _); refine ite_pos (by decide +kernel) ?_) | ((with_reducible show ite _ _ _); refine ite_neg (by decide +kernel) ?_) | ((with_reducible show wpAny _ _ (compareOp .Eq (Value.str _ _) (Value.str _ _)) _ _ _); refine my_eq1 ?_) | walk1 | (dsimp only; walk1) | (leave1; walk_say "STEP leave1"; try dsimp only)))
          refine eq_col (K := hdA.heap_1_1 w.params) (Frag.In.keeps (by k_asm) (Fr.keep (by k_asm))) (by rfl) (by k_asm) (.tail _ (.tail _ mA1)) (.tail _ (.tail _ mA2)) hi3 hj3 ok (by ke_room) ?_
          by_cases hij : i = j
          · rw [decide_eq_true hij]
            subst hij
            (repeat' ((fail_if_success (first | (with_reducible show wpAny _ _ (call (Value.ref _) _) _ _ _) | (with_reducible show wpAny _ _ (pyIter _) _ _ _) | (with_reducible show UnrPost _ _ _ _ _ _ _ _ _) | (with_reducible show wpAny _ _ (exec (Stmt.Assign _ (PySem.Expr.ListComp _ _ _ _) _) _) _ _ _) | (with_reducible show wpAny _ _ (eval (PySem.Expr.ListComp _ _ _ _) _) _ _ _) | (with_reducible show wpAny _ _ (call (Value.type "zip") _) _ _ _) | (with_reducible show MEnd _ _ _ _ _ _ _ _ _ _ _ _ _) | (with_reducible show wpAny _ _ (exec (Stmt.For _ _ _ _ _) _) _ _ _) | (with_reducible show wpAny _ _ (exec (Stmt.While _ _ _ _) _) _ _ _) | (with_reducible show wpAny _ _ (eval (PySem.Expr.IfExp _ _ _ _) _) _ _ _) | (with_reducible show wpAny _ _ (compareOp .Eq (Value.ref _) (Value.ref _)) _ _ _) | (with_reducible show wpAny _ _ (compareOp .NotEq (Value.ref _) (Value.ref _)) _ _ _) | (with_reducible show wpAny _ _ (call (Value.builtin "tuple.index") _) _ _ _))); first | (k_unfold; (try dsimp only)) | (k_end; wrow_close) | ((with_reducible show wpAny _ _ (execs (_ :: _) _) _ _ _); (with_reducible refine wpAny_execs_cons ?_); try dsimp only) | ((with_reducible show wpAny _ _ (execs [] _) _ _ _); refine wpAny_execs_nil ?_; try dsimp only) | ((with_reducible show wpAny _ _ (call (Value.builtin "list.append") [(Value.ref _), _]) _ _ _); (k_dflt (refine' append_K ?gF ?gN ?gU ?_ ?gz; (case gF => k_asm); (case gN => k_asm); (case gU => k_upd); (case gz => with_reducible assumption); k_whole)); intro _ _ _) | ((with_reducible show ite _ _ _); refine ite_pos (by decide +kernel) ?_) | walk1 | (dsimp only; walk1) | (leave1; walk_say "STEP leave1"; try dsimp only)))
            (with_reducible rename News _ _ _ _ => NZ)
            rw [List.push_toArray] at NZ
            exact hU (by k_asm) NZ ((Dp, W.listOf (p2 ++ [Value.none]).toArray (np + 1 + 1 + 1)) :: (led ++ news)) (by (repeat' first | exact List.forall_mem_nil _ | refine FMC.all ⟨by k_mem, ?_⟩ | (intro p9 hp9; (repeat' first | assumption | refine List.Mem.tail _ ?_)))) (FMC.all ⟨hne, hfi⟩)
              (fun _ kk => kk (none :: s') Dp _ _ led mi _ (col_same hg') (by rw [List.reverse_cons]; exact PileC.non (PileC.mono (fun p hp => hp) (Nat.le_trans q9 (by (repeat' first | exact Nat.le_refl _ | apply Nat.le_succ_of_le))) hp2)) (Nat.lt_of_lt_of_le hn9 (by (repeat' first | exact Nat.le_refl _ | apply Nat.le_succ_of_le))) (k3_non hk3) hoff hne hb2 (fun c hc => hsg c (.tail _ hc)) rfl rfl)
          · rw [decide_eq_false hij]
            (repeat' ((fail_if_success (first | (with_reducible show wpAny _ _ (call (Value.ref _) _) _ _ _) | (with_reducible show wpAny _ _ (pyIter _) _ _ _) | (with_reducible show UnrPost _ _ _ _ _ _ _ _ _) | (with_reducible show wpAny _ _ (exec (Stmt.Assign _ (PySem.Expr.ListComp _ _ _ _) _) _) _ _ _) | (with_reducible show wpAny _ _ (eval (PySem.Expr.ListComp _ _ _ _) _) _ _ _) | (with_reducible show wpAny _ _ (call (Value.type "zip") _) _ _ _) | (with_reducible show MEnd _ _ _ _ _ _ _ _ _ _ _ _ _) | (with_reducible show wpAny _ _ (exec (Stmt.For _ _ _ _ _) _) _ _ _) | (with_reducible show wpAny _ _ (exec (Stmt.While _ _ _ _) _) _ _ _) | (with_reducible show wpAny _ _ (eval (PySem.Expr.IfExp _ _ _ _) _) _ _ _) | (with_reducible show wpAny _ _ (compareOp .Eq (Value.ref _) (Value.ref _)) _ _ _) | (with_reducible show wpAny _ _ (compareOp .NotEq (Value.ref _) (Value.ref _)) _ _ _) | (with_reducible show wpAny _ _ (call (Value.builtin "tuple.index") _) _ _ _))); first | (k_unfold; (try dsimp only)) | (k_end; wrow_close) | ((with_reducible show wpAny _ _ (execs (_ :: _) _) _ _ _); (with_reducible refine wpAny_execs_cons ?_); try dsimp only) | ((with_reducible show wpAny _ _ (execs [] _) _ _ _); refine wpAny_execs_nil ?_; try dsimp only) | ((with_reducible show ite _ _ _); refine ite_neg (by decide +kernel) ?_) | walk1 | (dsimp only; walk1) | (leave1; walk_say "STEP leave1"; try dsimp only)))
            have hc6 := mixIx_lt hi3 hj3
            have hX9 := mixu6 hi3 hj3 hij
            have hk9 : 2 * mixK i j < 6 := by have := mixK_lt hi3 hj3; omega
            have hX8 := turn6 hi3
            have hk8 : 2 * ((i + 1) % 3) < 6 := by omega
            have hk7 : 2 * i < 6 := by omega
            have hm3 : (i + 1) % 3 < 3 := Nat.mod_lt _ (by decide)
            refine wpAny_grow ?_
            (k_dflt (refine mc_List (ct := none) (by k_asm) (by with_unfolding_all rfl) (by decide) (by rfl) (by decide) (by rfl) (by rfl) (by decide) ?_))
            (repeat' ((fail_if_success (first | (with_reducible show wpAny _ _ (call (Value.ref _) _) _ _ _) | (with_reducible show wpAny _ _ (pyIter _) _ _ _) | (with_reducible show UnrPost _ _ _ _ _ _ _ _ _) | (with_reducible show wpAny _ _ (exec (Stmt.Assign _ (PySem.Expr.ListComp _ _ _ _) _) _) _ _ _) | (with_reducible show wpAny _ _ (eval (PySem.Expr.ListComp _ _ _ _) _) _ _ _) | (with_reducible show wpAny _ _ (call (Value.type "zip") _) _ _ _) | (with_reducible show MEnd _ _ _ _ _ _ _ _ _ _ _ _ _) | (with_reducible show wpAny _ _ (exec (Stmt.For _ _ _ _ _) _) _ _ _) | (with_reducible show wpAny _ _ (exec (Stmt.While _ _ _ _) _) _ _ _) | (with_reducible show wpAny _ _ (eval (PySem.Expr.IfExp _ _ _ _) _) _ _ _) | (with_reducible show wpAny _ _ (compareOp .Eq (Value.ref _) (Value.ref _)) _ _ _) | (with_reducible show wpAny _ _ (compareOp .NotEq (Value.ref _) (Value.ref _)) _ _ _) | (with_reducible show wpAny _ _ (call (Value.builtin "tuple.index") _) _ _ _))); first | (k_unfold; (try dsimp only)) | (k_end; wrow_close) | ((with_reducible show wpAny _ _ (execs (_ :: _) _) _ _ _); (with_reducible refine wpAny_execs_cons ?_); try dsimp only) | ((with_reducible show wpAny _ _ (execs [] _) _ _ _); refine wpAny_execs_nil ?_; try dsimp only) | walk1 | (dsimp only; walk1) | (leave1; walk_say "STEP leave1"; try dsimp only)))
            refine mc_zip (by rfl) (by k_asm) (by k_asm) (Arm.tuple (a := A1) (vs := [.float (rgbOf (2 * i)).1 t1, .float (rgbOf (2 * i)).2.1 t2, .float (rgbOf (2 * i)).2.2 t3]) (n := 0)) (Arm.tuple (a := A2) (vs := [.float (rgbOf (2 * j)).1 t4, .float (rgbOf (2 * j)).2.1 t5, .float (rgbOf (2 * j)).2.2 t6]) (n := 0)) (FMC.all ⟨.tail _ (.tail _ mA1), List.forall_mem_nil _⟩) (FMC.all ⟨.tail _ (.tail _ mA2), List.forall_mem_nil _⟩) rfl (Nat.le_of_ble_eq_true rfl) (fun g i0 => ?_)
            refine MRest.gen (fun G => ∀ (nn : Nat) (w1 w2 w3 : Tok), G nn [.float (rgbOf (mixIx i j)).1 w1, .float (rgbOf (mixIx i j)).2.1 w2, .float (rgbOf (mixIx i j)).2.2 w3]) (fun Fin9 hFin => ?_) ?_
            · have mK : ∀ q ∈ [(A1, tup [.float (rgbOf (2 * i)).1 t1, .float (rgbOf (2 * i)).2.1 t2, .float (rgbOf (2 * i)).2.2 t3])] ++ [(A2, tup [.float (rgbOf (2 * j)).1 t4, .float (rgbOf (2 * j)).2.1 t5, .float (rgbOf (2 * j)).2.2 t6])], q ∈ (I, it) :: (Dp, W.listOf p2.toArray (np + 1 + 1)) :: (led ++ news) := FMC.all ⟨.tail _ (.tail _ mA1), FMC.all ⟨.tail _ (.tail _ mA2), List.forall_mem_nil _⟩⟩
              walk_at "MINE mcons"
              (repeat' ((fail_if_success (first | (with_reducible show wpAny _ _ (call (Value.ref _) _) _ _ _) | (with_reducible show wpAny _ _ (pyIter _) _ _ _) | (with_reducible show UnrPost _ _ _ _ _ _ _ _ _) | (with_reducible show wpAny _ _ (exec (Stmt.Assign _ (PySem.Expr.ListComp _ _ _ _) _) _) _ _ _) | (with_reducible show wpAny _ _ (eval (PySem.Expr.ListComp _ _ _ _) _) _ _ _) | (with_reducible show wpAny _ _ (call (Value.type "zip") _) _ _ _) | (with_reducible show MEnd _ _ _ _ _ _ _ _ _ _ _ _ _) | (with_reducible show wpAny _ _ (exec (Stmt.For _ _ _ _ _) _) _ _ _) | (with_reducible show wpAny _ _ (exec (Stmt.While _ _ _ _) _) _ _ _) | (with_reducible show wpAny _ _ (eval (PySem.Expr.IfExp _ _ _ _) _) _ _ _) | (with_reducible show wpAny _ _ (compareOp .Eq (Value.ref _) (Value.ref _)) _ _ _) | (with_reducible show wpAny _ _ (compareOp .NotEq (Value.ref _) (Value.ref _)) _ _ _) | (with_reducible show wpAny _ _ (call (Value.builtin "tuple.index") _) _ _ _))); first | (k_unfold; (try dsimp only)) | (k_end; wrow_close) | ((with_reducible show wpAny _ _ (execs (_ :: _) _) _ _ _); (with_reducible refine wpAny_execs_cons ?_); try dsimp only) | ((with_reducible show wpAny _ _ (execs [] _) _ _ _); refine wpAny_execs_nil ?_; try dsimp only) | ((with_reducible show wpAny _ _ (eval (PySem.Expr.Name _ _) (compEnvC _ _ _ _)) _ _ _); k_dflt (refine LCgL.ld_own (by k_asm) (by k_mem) (by assumption) (by assumption) ?_)) | walk1 | (dsimp only; walk1) | (leave1; walk_say "STEP leave1"; try dsimp only)))
              refine MEnd.intro (by k_asm) (by k_asm) _ (fun p9 hp9 => hp9) (by with_reducible assumption) (by with_reducible assumption) mK ?_
              walk_at "MINE mcons"
              (repeat' ((fail_if_success (first | (with_reducible show wpAny _ _ (call (Value.ref _) _) _ _ _) | (with_reducible show wpAny _ _ (pyIter _) _ _ _) | (with_reducible show UnrPost _ _ _ _ _ _ _ _ _) | (with_reducible show wpAny _ _ (exec (Stmt.Assign _ (PySem.Expr.ListComp _ _ _ _) _) _) _ _ _) | (with_reducible show wpAny _ _ (eval (PySem.Expr.ListComp _ _ _ _) _) _ _ _) | (with_reducible show wpAny _ _ (call (Value.type "zip") _) _ _ _) | (with_reducible show MEnd _ _ _ _ _ _ _ _ _ _ _ _ _) | (with_reducible show wpAny _ _ (exec (Stmt.For _ _ _ _ _) _) _ _ _) | (with_reducible show wpAny _ _ (exec (Stmt.While _ _ _ _) _) _ _ _) | (with_reducible show wpAny _ _ (eval (PySem.Expr.IfExp _ _ _ _) _) _ _ _) | (with_reducible show wpAny _ _ (compareOp .Eq (Value.ref _) (Value.ref _)) _ _ _) | (with_reducible show wpAny _ _ (compareOp .NotEq (Value.ref _) (Value.ref _)) _ _ _) | (with_reducible show wpAny _ _ (call (Value.builtin "tuple.index") _) _ _ _))); first | (k_unfold; (try dsimp only)) | (k_end; wrow_close) | ((with_reducible show wpAny _ _ (execs (_ :: _) _) _ _ _); (with_reducible refine wpAny_execs_cons ?_); try dsimp only) | ((with_reducible show wpAny _ _ (execs [] _) _ _ _); refine wpAny_execs_nil ?_; try dsimp only) | ((with_reducible show wpAny _ _ (eval (PySem.Expr.Name _ _) (compEnvC _ _ _ _)) _ _ _); k_dflt (refine LCgL.ld_own (by k_asm) (by k_mem) (by assumption) (by assumption) ?_)) | walk1 | (dsimp only; walk1) | (leave1; walk_say "STEP leave1"; try dsimp only)))
              refine MEnd.intro (by k_asm) (by k_asm) _ (fun p9 hp9 => hp9) (by with_reducible assumption) (by with_reducible assumption) mK ?_
              walk_at "MINE mcons"
              (repeat' ((fail_if_success (first | (with_reducible show wpAny _ _ (call (Value.ref _) _) _ _ _) | (with_reducible show wpAny _ _ (pyIter _) _ _ _) | (with_reducible show UnrPost _ _ _ _ _ _ _ _ _) | (with_reducible show wpAny _ _ (exec (Stmt.Assign _ (PySem.Expr.ListComp _ _ _ _) _) _) _ _ _) | (with_reducible show wpAny _ _ (eval (PySem.Expr.ListComp _ _ _ _) _) _ _ _) | (with_reducible show wpAny _ _ (call (Value.type "zip") _) _ _ _) | (with_reducible show MEnd _ _ _ _ _ _ _ _ _ _ _ _ _) | (with_reducible show wpAny _ _ (exec (Stmt.For _ _ _ _ _) _) _ _ _) | (with_reducible show wpAny _ _ (exec (Stmt.While _ _ _ _) _) _ _ _) | (with_reducible show wpAny _ _ (eval (PySem.Expr.IfExp _ _ _ _) _) _ _ _) | (with_reducible show wpAny _ _ (compareOp .Eq (Value.ref _) (Value.ref _)) _ _ _) | (with_reducible show wpAny _ _ (compareOp .NotEq (Value.ref _) (Value.ref _)) _ _ _) | (with_reducible show wpAny _ _ (call (Value.builtin "tuple.index") _) _ _ _))); first | (k_unfold; (try dsimp only)) | (k_end; wrow_close) | ((with_reducible show wpAny _ _ (execs (_ :: _) _) _ _ _); (with_reducible refine wpAny_execs_cons ?_); try dsimp only) | ((with_reducible show wpAny _ _ (execs [] _) _ _ _); refine wpAny_execs_nil ?_; try dsimp only) | ((with_reducible show wpAny _ _ (eval (PySem.Expr.Name _ _) (compEnvC _ _ _ _)) _ _ _); k_dflt (refine LCgL.ld_own (by k_asm) (by k_mem) (by assumption) (by assumption) ?_)) | walk1 | (dsimp only; walk1) | (leave1; walk_say "STEP leave1"; try dsimp only)))
              refine MEnd.intro (by k_asm) (by k_asm) _ (fun p9 hp9 => hp9) (by with_reducible assumption) (by with_reducible assumption) mK ?_
              refine MRest.nil ?_
              rw [mixu1 hi3 hj3 hij, mixu2 hi3 hj3 hij, mixu3 hi3 hj3 hij]
              exact hFin _ _ _ _
            intro nn w1 w2 w3
            intro D3 h3 tk3 _ F3 N3 ne3 lt3 qg
            k_lt lt3
            (repeat' ((fail_if_success (first | (with_reducible show wpAny _ _ (call (Value.ref _) _) _ _ _) | (with_reducible show wpAny _ _ (pyIter _) _ _ _) | (with_reducible show UnrPost _ _ _ _ _ _ _ _ _) | (with_reducible show wpAny _ _ (exec (Stmt.Assign _ (PySem.Expr.ListComp _ _ _ _) _) _) _ _ _) | (with_reducible show wpAny _ _ (eval (PySem.Expr.ListComp _ _ _ _) _) _ _ _) | (with_reducible show wpAny _ _ (call (Value.type "zip") _) _ _ _) | (with_reducible show MEnd _ _ _ _ _ _ _ _ _ _ _ _ _) | (with_reducible show wpAny _ _ (exec (Stmt.For _ _ _ _ _) _) _ _ _) | (with_reducible show wpAny _ _ (exec (Stmt.While _ _ _ _) _) _ _ _) | (with_reducible show wpAny _ _ (eval (PySem.Expr.IfExp _ _ _ _) _) _ _ _) | (with_reducible show wpAny _ _ (compareOp .Eq (Value.ref _) (Value.ref _)) _ _ _) | (with_reducible show wpAny _ _ (compareOp .NotEq (Value.ref _) (Value.ref _)) _ _ _) | (with_reducible show wpAny _ _ (call (Value.builtin "tuple.index") _) _ _ _))); first | (k_unfold; (try dsimp only)) | (k_end; wrow_close) | ((with_reducible show wpAny _ _ (execs (_ :: _) _) _ _ _); (with_reducible refine wpAny_execs_cons ?_); try dsimp only) | ((with_reducible show wpAny _ _ (execs [] _) _ _ _); refine wpAny_execs_nil ?_; try dsimp only) | walk1 | (dsimp only; walk1) | (leave1; walk_say "STEP leave1"; try dsimp only)))
            refine wpAny_grow ?_
            refine' (rgbC (w := w) _ hc6 _ _ _).use (K := K02) ?B2 ?F2 ?X2 ?N2 ?T2 ⟨hH1, hH2⟩ rfl ?hd2 ?hu2 ?_
            case N2 => k_asm
            case B2 => k_asm
            case F2 => k_asm
            case X2 => k_asm
            case T2 => k_asm
            case hd2 => ktr_room
            case hu2 => ktr_units
            intro D4 u1 u2 u3 l4 h4 tk4 F4 N4 q4
            k_lt l4
            replace qg : tk9 ≤ tk3 := Nat.le_trans (by (repeat' first | exact Nat.le_refl _ | apply Nat.le_succ_of_le)) qg
            replace q4 : tk9 ≤ tk4 := Nat.le_trans qg (Nat.le_trans (by (repeat' first | exact Nat.le_refl _ | apply Nat.le_succ_of_le)) q4)
            (repeat' ((fail_if_success (first | (with_reducible show wpAny _ _ (call (Value.ref _) _) _ _ _) | (with_reducible show wpAny _ _ (pyIter _) _ _ _) | (with_reducible show UnrPost _ _ _ _ _ _ _ _ _) | (with_reducible show wpAny _ _ (exec (Stmt.Assign _ (PySem.Expr.ListComp _ _ _ _) _) _) _ _ _) | (with_reducible show wpAny _ _ (eval (PySem.Expr.ListComp _ _ _ _) _) _ _ _) | (with_reducible show wpAny _ _ (call (Value.type "zip") _) _ _ _) | (with_reducible show MEnd _ _ _ _ _ _ _ _ _ _ _ _ _) | (with_reducible show wpAny _ _ (exec (Stmt.For _ _ _ _ _) _) _ _ _) | (with_reducible show wpAny _ _ (exec (Stmt.While _ _ _ _) _) _ _ _) | (with_reducible show wpAny _ _ (eval (PySem.Expr.IfExp _ _ _ _) _) _ _ _) | (with_reducible show wpAny _ _ (compareOp .Eq (Value.ref _) (Value.ref _)) _ _ _) | (with_reducible show wpAny _ _ (compareOp .NotEq (Value.ref _) (Value.ref _)) _ _ _) | (with_reducible show wpAny _ _ (call (Value.builtin "tuple.index") _) _ _ _))); first | (k_unfold; (try dsimp only)) | (k_end; wrow_close) | ((with_reducible show wpAny _ _ (call (Value.type "int") [(Value.float _ _)]) _ _ _); refine my_int_mix ?hk9 ?_; (case hk9 => with_reducible assumption)) | ((with_reducible show wpAny _ _ (execs (_ :: _) _) _ _ _); (with_reducible refine wpAny_execs_cons ?_); try dsimp only) | ((with_reducible show wpAny _ _ (execs [] _) _ _ _); refine wpAny_execs_nil ?_; try dsimp only) | ((with_reducible show wpAny _ _ (binaryOp .Div (Value.int _ _) (Value.int _ _)) _ _ _); (refine' my_div6 ?hX9 ?hk9 ?_); (case hX9 => with_reducible assumption); (case hk9 => with_reducible assumption)) | ((with_reducible show wpAny _ _ (callWith _ (Value.ref _) _ _ _) _ _ _); (k_here; (k_dflt (refine' callWith_K ?k1 ?k2 ?_; (case k1 => k_asm); (case k2 => k_is); k_whole)))) | walk1 | (dsimp only; walk1) | (leave1; walk_say "STEP leave1"; try dsimp only)))
            refine' (hsvT (w := w) _ (mixK_lt hi3 hj3) _ rfl _ _ _).use (K := K02) ?B3 ?F3 ?X3 ?N3 ?T3 ⟨hH1, hH2⟩ rfl ?hd3 ?hu3 ?_
            case N3 => k_asm
            case B3 => k_asm
            case F3 => k_asm
            case X3 => k_asm
            case T3 => k_asm
            case hd3 => ktr_room
            case hu3 => ktr_units
            intro hi5 D5 x1 x2 x3 q6 qx1 qx2 qx3 l5 h5 F5 N5
            k_lt l5
            have hq : ∀ {y : Tok}, (y = _ ∨ _) → tk9 ≤ y ∧ y < hi5 := fun {y} h => tokBd (lo := tk9) h ⟨Nat.le_trans q4 (by (repeat' first | exact Nat.le_refl _ | apply Nat.le_succ_of_le)), Nat.lt_succ_self _⟩ q6
            replace qx1 := hq qx1
            replace qx2 := hq qx2
            replace qx3 := hq qx3
            clear hq
            (repeat' ((fail_if_success (first | (with_reducible show wpAny _ _ (call (Value.ref _) _) _ _ _) | (with_reducible show wpAny _ _ (pyIter _) _ _ _) | (with_reducible show UnrPost _ _ _ _ _ _ _ _ _) | (with_reducible show wpAny _ _ (exec (Stmt.Assign _ (PySem.Expr.ListComp _ _ _ _) _) _) _ _ _) | (with_reducible show wpAny _ _ (eval (PySem.Expr.ListComp _ _ _ _) _) _ _ _) | (with_reducible show wpAny _ _ (call (Value.type "zip") _) _ _ _) | (with_reducible show MEnd _ _ _ _ _ _ _ _ _ _ _ _ _) | (with_reducible show wpAny _ _ (exec (Stmt.For _ _ _ _ _) _) _ _ _) | (with_reducible show wpAny _ _ (exec (Stmt.While _ _ _ _) _) _ _ _) | (with_reducible show wpAny _ _ (eval (PySem.Expr.IfExp _ _ _ _) _) _ _ _) | (with_reducible show wpAny _ _ (compareOp .Eq (Value.ref _) (Value.ref _)) _ _ _) | (with_reducible show wpAny _ _ (compareOp .NotEq (Value.ref _) (Value.ref _)) _ _ _) | (with_reducible show wpAny _ _ (call (Value.builtin "tuple.index") _) _ _ _))); first | (k_unfold; (try dsimp only)) | (k_end; wrow_close) | ((with_reducible show wpAny _ _ (execs (_ :: _) _) _ _ _); (with_reducible refine wpAny_execs_cons ?_); try dsimp only) | ((with_reducible show wpAny _ _ (execs [] _) _ _ _); refine wpAny_execs_nil ?_; try dsimp only) | ((with_reducible show wpAny _ _ (call (Value.builtin "list.append") [(Value.ref _), _]) _ _ _); (k_dflt (refine' append_K ?gF ?gN ?gU ?_ ?gz; (case gF => k_asm); (case gN => k_asm); (case gU => k_upd); (case gz => with_reducible assumption); k_whole)); intro _ _ _) | walk1 | (dsimp only; walk1) | (leave1; walk_say "STEP leave1"; try dsimp only)))
            (with_reducible rename News _ _ _ _ => NZ)
            rw [List.push_toArray] at NZ
            have hI5 : @Ne Nat D5 I := Nat.ne_of_gt (by assumption)
            have hD5 : @Ne Nat D5 Dp := Nat.ne_of_gt (by assumption)
            have q9b : tk9 ≤ hi5 := Nat.le_trans qx1.1 (Nat.le_of_lt qx1.2)
            replace NZ := newsSub (T := (D5, colO (mixK i j) x1 x2 x3) :: (I, it) :: (Dp, W.listOf (p2 ++ [Value.ref D5]).toArray (np + 1 + 1 + 1)) :: (led ++ news)) NZ (FMC.all ⟨.head _, fun p hp => .tail _ (.tail _ (.tail _ hp))⟩)
            refine wpAny_grow ?_
            refine' (rgbC (w := w) _ hk7 _ _ _).use (K := K02) ?B4 ?F4 ?X4 ?N4 ?T4 ⟨hH1, hH2⟩ rfl ?hd4 ?hu4 ?_
            case N4 => k_asm
            case B4 => k_asm
            case F4 => k_asm
            case X4 => k_asm
            case T4 => k_asm
            case hd4 => ktr_room
            case hu4 => ktr_units
            intro D6 v1 v2 v3 l6 h6 tk6 F6 N6 q7
            k_lt l6
            replace q7 : hi5 ≤ tk6 := Nat.le_trans (by (repeat' first | exact Nat.le_refl _ | apply Nat.le_succ_of_le)) q7
            (repeat' ((fail_if_success (first | (with_reducible show wpAny _ _ (call (Value.ref _) _) _ _ _) | (with_reducible show wpAny _ _ (pyIter _) _ _ _) | (with_reducible show UnrPost _ _ _ _ _ _ _ _ _) | (with_reducible show wpAny _ _ (exec (Stmt.Assign _ (PySem.Expr.ListComp _ _ _ _) _) _) _ _ _) | (with_reducible show wpAny _ _ (eval (PySem.Expr.ListComp _ _ _ _) _) _ _ _) | (with_reducible show wpAny _ _ (call (Value.type "zip") _) _ _ _) | (with_reducible show MEnd _ _ _ _ _ _ _ _ _ _ _ _ _) | (with_reducible show wpAny _ _ (exec (Stmt.For _ _ _ _ _) _) _ _ _) | (with_reducible show wpAny _ _ (exec (Stmt.While _ _ _ _) _) _ _ _) | (with_reducible show wpAny _ _ (eval (PySem.Expr.IfExp _ _ _ _) _) _ _ _) | (with_reducible show wpAny _ _ (compareOp .Eq (Value.ref _) (Value.ref _)) _ _ _) | (with_reducible show wpAny _ _ (compareOp .NotEq (Value.ref _) (Value.ref _)) _ _ _) | (with_reducible show wpAny _ _ (call (Value.builtin "tuple.index") _) _ _ _))); first | (k_unfold; (try dsimp only)) | (k_end; wrow_close) | ((with_reducible show wpAny _ _ (call (Value.type "int") [(Value.float _ _)]) _ _ _); refine my_int_mix ?hk9 ?_; (case hk9 => with_reducible assumption)) | ((with_reducible show wpAny _ _ (execs (_ :: _) _) _ _ _); (with_reducible refine wpAny_execs_cons ?_); try dsimp only) | ((with_reducible show wpAny _ _ (execs [] _) _ _ _); refine wpAny_execs_nil ?_; try dsimp only) | ((with_reducible show wpAny _ _ (binaryOp .Div (Value.int _ _) (Value.int _ _)) _ _ _); (refine' my_div6 ?hX9 ?hk9 ?_); (case hX9 => with_reducible assumption); (case hk9 => with_reducible assumption)) | ((with_reducible show wpAny _ _ (callWith _ (Value.ref _) _ _ _) _ _ _); (k_here; (k_dflt (refine' callWith_K ?k1 ?k2 ?_; (case k1 => k_asm); (case k2 => k_is); k_whole)))) | walk1 | (dsimp only; walk1) | (leave1; walk_say "STEP leave1"; try dsimp only)))
            refine' (hsvT (w := w) _ hm3 _ rfl _ _ _).use (K := K02) ?B5 ?F5 ?X5 ?N5 ?T5 ⟨hH1, hH2⟩ rfl ?hd5 ?hu5 ?_
            case N5 => k_asm
            case B5 => k_asm
            case F5 => k_asm
            case X5 => k_asm
            case T5 => k_asm
            case hd5 => ktr_room
            case hu5 => ktr_units
            intro hi7 D7 s1 s2 s3 q8 qs1 qs2 qs3 l7 h7 F7 N7
            k_lt l7
            have hq : ∀ {y : Tok}, (y = _ ∨ _) → hi5 ≤ y ∧ y < hi7 := fun {y} h => tokBd (lo := hi5) h ⟨Nat.le_trans q7 (by (repeat' first | exact Nat.le_refl _ | apply Nat.le_succ_of_le)), Nat.lt_succ_self _⟩ q8
            replace qs1 := hq qs1
            replace qs2 := hq qs2
            replace qs3 := hq qs3
            clear hq
            have q9a : hi5 ≤ hi7 := Nat.le_trans qs1.1 (Nat.le_of_lt qs1.2)
            have nz : ∀ {y : Tok}, hi5 ≤ y → y ≠ 0 := fun h e => by subst e; exact absurd (Nat.lt_of_lt_of_le hn9 q9b) (Nat.not_lt.mpr h)
            have ap : ∀ {y z : Tok}, hi5 ≤ y → z < n → y ≠ z := fun h h' e => by subst e; exact absurd (Nat.lt_of_lt_of_le h' (Nat.le_trans q9 q9b)) (Nat.not_lt.mpr h)
            have hg2 := col_mix hij hg'
            (repeat' ((fail_if_success (first | (with_reducible show wpAny _ _ (call (Value.ref _) _) _ _ _) | (with_reducible show wpAny _ _ (pyIter _) _ _ _) | (with_reducible show UnrPost _ _ _ _ _ _ _ _ _) | (with_reducible show wpAny _ _ (exec (Stmt.Assign _ (PySem.Expr.ListComp _ _ _ _) _) _) _ _ _) | (with_reducible show wpAny _ _ (eval (PySem.Expr.ListComp _ _ _ _) _) _ _ _) | (with_reducible show wpAny _ _ (call (Value.type "zip") _) _ _ _) | (with_reducible show MEnd _ _ _ _ _ _ _ _ _ _ _ _ _) | (with_reducible show wpAny _ _ (exec (Stmt.For _ _ _ _ _) _) _ _ _) | (with_reducible show wpAny _ _ (exec (Stmt.While _ _ _ _) _) _ _ _) | (with_reducible show wpAny _ _ (eval (PySem.Expr.IfExp _ _ _ _) _) _ _ _) | (with_reducible show wpAny _ _ (compareOp .Eq (Value.ref _) (Value.ref _)) _ _ _) | (with_reducible show wpAny _ _ (compareOp .NotEq (Value.ref _) (Value.ref _)) _ _ _) | (with_reducible show wpAny _ _ (call (Value.builtin "tuple.index") _) _ _ _))); first | (k_unfold; (try dsimp only)) | (k_end; wrow_close) | ((with_reducible show wpAny _ _ (execs (_ :: _) _) _ _ _); (with_reducible refine wpAny_execs_cons ?_); try dsimp only) | ((with_reducible show wpAny _ _ (execs [] _) _ _ _); refine wpAny_execs_nil ?_; try dsimp only) | walk1 | (dsimp only; walk1) | (leave1; walk_say "STEP leave1"; try dsimp only)))
            refine ne_col (K := hdA.heap_1_1 w.params) (Frag.In.keeps (by k_asm) (Fr.keep (by k_asm))) (by rfl) (by k_asm) (.head _) (.tail _ (.tail _ (.tail _ (.tail _ (.tail _ mA2))))) hm3 hj3 ⟨nz qs1.1, nz qs2.1, nz qs3.1, ok.2.2.2.1, ok.2.2.2.2.1, ok.2.2.2.2.2.1, fun _ => ⟨ap qs1.1 hA4.1, ap qs2.1 hA4.2.1, ap qs3.1 hA4.2.2⟩⟩ (by ke_room) ?_
            by_cases hsame : (i + 1) % 3 = j
            · rw [show (!decide ((i + 1) % 3 = j)) = false by rw [decide_eq_true hsame]; rfl]
              rw [if_pos hsame, Int.add_zero] at hg2
              (repeat' ((fail_if_success (first | (with_reducible show wpAny _ _ (call (Value.ref _) _) _ _ _) | (with_reducible show wpAny _ _ (pyIter _) _ _ _) | (with_reducible show UnrPost _ _ _ _ _ _ _ _ _) | (with_reducible show wpAny _ _ (exec (Stmt.Assign _ (PySem.Expr.ListComp _ _ _ _) _) _) _ _ _) | (with_reducible show wpAny _ _ (eval (PySem.Expr.ListComp _ _ _ _) _) _ _ _) | (with_reducible show wpAny _ _ (call (Value.type "zip") _) _ _ _) | (with_reducible show MEnd _ _ _ _ _ _ _ _ _ _ _ _ _) | (with_reducible show wpAny _ _ (exec (Stmt.For _ _ _ _ _) _) _ _ _) | (with_reducible show wpAny _ _ (exec (Stmt.While _ _ _ _) _) _ _ _) | (with_reducible show wpAny _ _ (eval (PySem.Expr.IfExp _ _ _ _) _) _ _ _) | (with_reducible show wpAny _ _ (compareOp .Eq (Value.ref _) (Value.ref _)) _ _ _) | (with_reducible show wpAny _ _ (compareOp .NotEq (Value.ref _) (Value.ref _)) _ _ _) | (with_reducible show wpAny _ _ (call (Value.builtin "tuple.index") _) _ _ _))); first | (k_unfold; (try dsimp only)) | (k_end; wrow_close) | ((with_reducible show wpAny _ _ (execs (_ :: _) _) _ _ _); (with_reducible refine wpAny_execs_cons ?_); try dsimp only) | ((with_reducible show wpAny _ _ (execs [] _) _ _ _); refine wpAny_execs_nil ?_; try dsimp only) | ((with_reducible show ite _ _ _); refine ite_neg (by decide +kernel) ?_) | walk1 | (dsimp only; walk1) | (leave1; walk_say "STEP leave1"; try dsimp only)))
              exact hU (by k_asm) (by k_asm) ((Dp, W.listOf (p2 ++ [Value.ref D5]).toArray (np + 1 + 1 + 1)) :: (((D5, colO (mixK i j) x1 x2 x3) :: led) ++ news)) (by (repeat' first | exact List.forall_mem_nil _ | refine FMC.all ⟨by k_mem, ?_⟩ | (intro p9 hp9; (repeat' first | assumption | refine List.Mem.tail _ ?_)))) (FMC.all ⟨hne, FMC.all ⟨hI5, hfi⟩⟩)
                (fun _ kk => kk (some (mixK i j) :: s') Dp _ _ ((D5, colO (mixK i j) x1 x2 x3) :: led) _ _ hg2 (by rw [List.reverse_cons]; exact PileC.snoc (PileC.mono (fun p hp => .tail _ hp) q9 hp2) hn9 (.head _) ⟨qx1.1, Nat.lt_of_lt_of_le qx1.2 (Nat.le_trans q9a (by (repeat' first | exact Nat.le_refl _ | apply Nat.le_succ_of_le)))⟩ ⟨qx2.1, Nat.lt_of_lt_of_le qx2.2 (Nat.le_trans q9a (by (repeat' first | exact Nat.le_refl _ | apply Nat.le_succ_of_le)))⟩ ⟨qx3.1, Nat.lt_of_lt_of_le qx3.2 (Nat.le_trans q9a (by (repeat' first | exact Nat.le_refl _ | apply Nat.le_succ_of_le)))⟩) (Nat.lt_of_lt_of_le hn9 (Nat.le_trans q9b (Nat.le_trans q9a (by (repeat' first | exact Nat.le_refl _ | apply Nat.le_succ_of_le))))) (k3_mix (mixK_lt hi3 hj3) hk3) (FMC.all ⟨⟨hI5, hD5⟩, hoff⟩) hne hb2 (fun c hc => hsg c (.tail _ hc)) rfl rfl)
            · rw [show (!decide ((i + 1) % 3 = j)) = true by rw [decide_eq_false hsame]; rfl]
              rw [if_neg hsame] at hg2
              (repeat' ((fail_if_success (first | (with_reducible show wpAny _ _ (call (Value.ref _) _) _ _ _) | (with_reducible show wpAny _ _ (pyIter _) _ _ _) | (with_reducible show UnrPost _ _ _ _ _ _ _ _ _) | (with_reducible show wpAny _ _ (exec (Stmt.Assign _ (PySem.Expr.ListComp _ _ _ _) _) _) _ _ _) | (with_reducible show wpAny _ _ (eval (PySem.Expr.ListComp _ _ _ _) _) _ _ _) | (with_reducible show wpAny _ _ (call (Value.type "zip") _) _ _ _) | (with_reducible show MEnd _ _ _ _ _ _ _ _ _ _ _ _ _) | (with_reducible show wpAny _ _ (exec (Stmt.For _ _ _ _ _) _) _ _ _) | (with_reducible show wpAny _ _ (exec (Stmt.While _ _ _ _) _) _ _ _) | (with_reducible show wpAny _ _ (eval (PySem.Expr.IfExp _ _ _ _) _) _ _ _) | (with_reducible show wpAny _ _ (compareOp .Eq (Value.ref _) (Value.ref _)) _ _ _) | (with_reducible show wpAny _ _ (compareOp .NotEq (Value.ref _) (Value.ref _)) _ _ _) | (with_reducible show wpAny _ _ (call (Value.builtin "tuple.index") _) _ _ _))); first | (k_unfold; (try dsimp only)) | (k_end; wrow_close) | ((with_reducible show wpAny _ _ (execs (_ :: _) _) _ _ _); (with_reducible refine wpAny_execs_cons ?_); try dsimp only) | ((with_reducible show wpAny _ _ (execs [] _) _ _ _); refine wpAny_execs_nil ?_; try dsimp only) | ((with_reducible show ite _ _ _); refine ite_pos (by decide +kernel) ?_) | ((with_reducible show wpAny _ _ (storeName _ _ _) _ _ _); k_dflt (refine' storeX_L ?F ?N ?_ ?a ?b; (case F => k_asm); (case N => k_asm); (case a => rfl); (case b => rfl); k_whole; intro _ _ _; (try k_sweep))) | walk1 | (dsimp only; walk1) | (leave1; walk_say "STEP leave1"; try dsimp only)))
              exact hU (by k_asm) (by k_asm) ((Dp, W.listOf (p2 ++ [Value.ref D5]).toArray (np + 1 + 1 + 1)) :: (((D5, colO (mixK i j) x1 x2 x3) :: led) ++ news)) (by (repeat' first | exact List.forall_mem_nil _ | refine FMC.all ⟨by k_mem, ?_⟩ | (intro p9 hp9; (repeat' first | assumption | refine List.Mem.tail _ ?_)))) (FMC.all ⟨hne, FMC.all ⟨hI5, hfi⟩⟩)
                (fun _ kk => kk (some (mixK i j) :: s') Dp _ _ ((D5, colO (mixK i j) x1 x2 x3) :: led) _ _ hg2 (by rw [List.reverse_cons]; exact PileC.snoc (PileC.mono (fun p hp => .tail _ hp) q9 hp2) hn9 (.head _) ⟨qx1.1, Nat.lt_of_lt_of_le qx1.2 (Nat.le_trans q9a (by (repeat' first | exact Nat.le_refl _ | apply Nat.le_succ_of_le)))⟩ ⟨qx2.1, Nat.lt_of_lt_of_le qx2.2 (Nat.le_trans q9a (by (repeat' first | exact Nat.le_refl _ | apply Nat.le_succ_of_le)))⟩ ⟨qx3.1, Nat.lt_of_lt_of_le qx3.2 (Nat.le_trans q9a (by (repeat' first | exact Nat.le_refl _ | apply Nat.le_succ_of_le)))⟩) (Nat.lt_of_lt_of_le hn9 (Nat.le_trans q9b (Nat.le_trans q9a (by (repeat' first | exact Nat.le_refl _ | apply Nat.le_succ_of_le))))) (k3_mix (mixK_lt hi3 hj3) hk3) (FMC.all ⟨⟨hI5, hD5⟩, hoff⟩) hne hb2 (fun c hc => hsg c (.tail _ hc)) rfl rfl)
    · have hn41 : ¬ c = 41 := by omega
      rw [colGo_l hc] at hg
      have hX9 : ((ixOf c : Nat) : Int) * 2 = ((2 * ixOf c : Nat) : Int) := by omega
      have hk9 : 2 * ixOf c < 6 := by have := ixOf_lt (c := c); omega
      (repeat' ((fail_if_success (first | (with_reducible show wpAny _ _ (call (Value.ref _) _) _ _ _) | (with_reducible show wpAny _ _ (pyIter _) _ _ _) | (with_reducible show UnrPost _ _ _ _ _ _ _ _ _) | (with_reducible show wpAny _ _ (exec (Stmt.Assign _ (PySem.Expr.ListComp _ _ _ _) _) _) _ _ _) | (with_reducible show wpAny _ _ (eval (PySem.Expr.ListComp _ _ _ _) _) _ _ _) | (with_reducible show wpAny _ _ (call (Value.type "zip") _) _ _ _) | (with_reducible show MEnd _ _ _ _ _ _ _ _ _ _ _ _ _) | (with_reducible show wpAny _ _ (exec (Stmt.For _ _ _ _ _) _) _ _ _) | (with_reducible show wpAny _ _ (exec (Stmt.While _ _ _ _) _) _ _ _) | (with_reducible show wpAny _ _ (eval (PySem.Expr.IfExp _ _ _ _) _) _ _ _) | (with_reducible show wpAny _ _ (compareOp .Eq (Value.ref _) (Value.ref _)) _ _ _) | (with_reducible show wpAny _ _ (compareOp .NotEq (Value.ref _) (Value.ref _)) _ _ _) | (with_reducible show wpAny _ _ (call (Value.builtin "tuple.index") _) _ _ _))); first | (k_unfold; (try dsimp only)) | (k_end; wrow_close) | ((with_reducible show wpAny _ _ (execs (_ :: _) _) _ _ _); (with_reducible refine wpAny_execs_cons ?_); try dsimp only) | ((with_reducible show wpAny _ _ (execs [] _) _ _ _); refine wpAny_execs_nil ?_; try dsimp only) | (with_reducible refine my_inL (by with_reducible assumption) ?_) | ((with_reducible show wpAny _ _ (call (Value.builtin "str.find") _) _ _ _); (refine my_findG (c := _) (by with_reducible assumption) ?_; intro _ _ qfind)) | ((with_reducible show wpAny _ _ (binaryOp .Div (Value.int _ _) (Value.int _ _)) _ _ _); (refine' my_div6 ?hX9 ?hk9 ?_); (case hX9 => with_reducible assumption); (case hk9 => with_reducible assumption)) | ((with_reducible show ite _ _ _); refine ite_pos (by decide +kernel) ?_) | ((with_reducible show wpAny _ _ (callWith _ (Value.ref _) _ _ _) _ _ _); (k_here; (k_dflt (refine' callWith_K ?k1 ?k2 ?_; (case k1 => k_asm); (case k2 => k_is); k_whole)))) | ((with_reducible show wpAny _ _ (eval (PySem.Expr.Name _ _) (envOf _ _ _ _ _)) _ _ _); k_dflt (refine' nameX_L ?F ?v ?_ ?a ?b; (case F => k_asm); (case a => rfl); (case b => rfl); (case v => rfl); k_whole)) | walk1 | (dsimp only; walk1) | (leave1; walk_say "STEP leave1"; try dsimp only)))
      (with_reducible rename (_ : Nat) ≤ _ => qf)
      replace qf : tk9 ≤ _ := Nat.le_trans (by (repeat' first | exact Nat.le_refl _ | apply Nat.le_succ_of_le)) qf
      refine' (hsvT (w := w) (ixOf c) ixOf_lt _ rfl _ _ _).use (K := K02) ?B1 ?F1 ?X1 ?N1 ?T1 ⟨hH1, hH2⟩ rfl ?hd1 ?hu1 ?_
      case N1 => k_asm
      case B1 => k_asm
      case F1 => k_asm
      case X1 => k_asm
      case T1 => k_asm
      case hd1 => ktr_room
      case hu1 => ktr_units
      intro hi5 D5 y1 y2 y3 q6 qy1 qy2 qy3 l5 h5 F5 N5
      k_lt l5
      (repeat' ((fail_if_success (first | (with_reducible show wpAny _ _ (call (Value.ref _) _) _ _ _) | (with_reducible show wpAny _ _ (pyIter _) _ _ _) | (with_reducible show UnrPost _ _ _ _ _ _ _ _ _) | (with_reducible show wpAny _ _ (exec (Stmt.Assign _ (PySem.Expr.ListComp _ _ _ _) _) _) _ _ _) | (with_reducible show wpAny _ _ (eval (PySem.Expr.ListComp _ _ _ _) _) _ _ _) | (with_reducible show wpAny _ _ (call (Value.type "zip") _) _ _ _) | (with_reducible show MEnd _ _ _ _ _ _ _ _ _ _ _ _ _) | (with_reducible show wpAny _ _ (exec (Stmt.For _ _ _ _ _) _) _ _ _) | (with_reducible show wpAny _ _ (exec (Stmt.While _ _ _ _) _) _ _ _) | (with_reducible show wpAny _ _ (eval (PySem.Expr.IfExp _ _ _ _) _) _ _ _) | (with_reducible show wpAny _ _ (compareOp .Eq (Value.ref _) (Value.ref _)) _ _ _) | (with_reducible show wpAny _ _ (compareOp .NotEq (Value.ref _) (Value.ref _)) _ _ _) | (with_reducible show wpAny _ _ (call (Value.builtin "tuple.index") _) _ _ _))); first | (k_unfold; (try dsimp only)) | (k_end; wrow_close) | ((with_reducible show wpAny _ _ (execs (_ :: _) _) _ _ _); (with_reducible refine wpAny_execs_cons ?_); try dsimp only) | ((with_reducible show wpAny _ _ (execs [] _) _ _ _); refine wpAny_execs_nil ?_; try dsimp only) | (with_reducible refine my_no41 (by with_reducible assumption) ?_) | ((with_reducible show wpAny _ _ (call (Value.builtin "list.append") [(Value.ref _), _]) _ _ _); (k_dflt (refine' append_K ?gF ?gN ?gU ?_ ?gz; (case gF => k_asm); (case gN => k_asm); (case gU => k_upd); (case gz => with_reducible assumption); k_whole)); intro _ _ _) | ((with_reducible show ite _ _ _); refine ite_neg (by decide +kernel) ?_) | ((with_reducible show wpAny _ _ (eval (PySem.Expr.Name _ _) (envOf _ _ _ _ _)) _ _ _); k_dflt (refine' nameX_L ?F ?v ?_ ?a ?b; (case F => k_asm); (case a => rfl); (case b => rfl); (case v => rfl); k_whole)) | walk1 | (dsimp only; walk1) | (leave1; walk_say "STEP leave1"; try dsimp only)))
      (with_reducible rename News _ _ _ _ => NZ)
      rw [List.push_toArray] at NZ
      have hq : ∀ {y : Tok}, (y = _ ∨ _) → tk9 ≤ y ∧ y < hi5 + 1 := fun {y} h => (fun z => ⟨z.1, Nat.lt_succ_of_lt z.2⟩) (tokBd (lo := tk9) h ⟨Nat.le_trans qf (by (repeat' first | exact Nat.le_refl _ | apply Nat.le_succ_of_le)), Nat.lt_succ_self _⟩ q6)
      exact hU (by k_asm) NZ ((Dp, W.listOf (pv ++ [Value.ref D5]).toArray (np + 1)) :: (((D5, colO (ixOf c) y1 y2 y3) :: led) ++ news)) (by (repeat' first | exact List.forall_mem_nil _ | refine FMC.all ⟨by k_mem, ?_⟩ | (intro p9 hp9; (repeat' first | assumption | refine List.Mem.tail _ ?_)))) (FMC.all ⟨hne, FMC.all ⟨Nat.ne_of_gt (by assumption), hfi⟩⟩)
        (fun _ kk => kk (some (ixOf c) :: st) Dp _ _ ((D5, colO (ixOf c) y1 y2 y3) :: led) mi _ hg (by rw [List.reverse_cons]; exact PileC.snoc (PileC.mono (fun p hp => .tail _ hp) q9 hp) hn9 (.head _) (hq qy1) (hq qy2) (hq qy3)) (Nat.succ_pos _) (k3_snoc hk3) (FMC.all ⟨⟨Nat.ne_of_gt (by assumption), Nat.ne_of_gt (by assumption)⟩, hoff⟩) hne (by rw [List.length_cons] at hb ⊢; omega) (fun c hc => hsg c (.tail _ hc)) rfl rfl)
set_option compiler.extract_closed false
set_option maxRecDepth 100000 in
set_option maxHeartbeats 4000000 in
theorem paintedC {w : World} {news : Led} (figs : List Nat) (hf5 : figs.length = 5) (hf : ∀ x ∈ figs, x < 3) (ps : List (Nat × Nat)) (hps : ∀ p ∈ ps, p.1 < p.2 ∧ p.2 ≤ 5) (hpl : ps.length ≤ 50) (R : List Nat) (hR : dfs figs ps 364 [[0]] = some R) (Df D : Addr) (vs : List Value) (kf n : Nat) (hv : IntsAre vs (castL figs)) (hm : (Df, W.listOf vs.toArray kf) ∈ news) (ts : List (Addr × Value × Value)) (hts : PrsAre ts ps) (hD : (D, W.listOf (ts.map fun e => Value.ref e.1).toArray n) ∈ news) (hin : ∀ e ∈ ts, (e.1, tup [e.2.1, e.2.2]) ∈ news) :
   CW K02 P02 w H02 108 30 300 news [.ref Df, .ref D] (fun G => ∀ (Dr : Addr) (rv : List Value) (k : Nat), IntsAre rv (castL R) → (∀ z ∈ news, z.1 ≠ Dr) → G (.ref Dr) ((Dr, W.listOf rv.toArray k) :: news)) := by
  have hlaw : (fun (_ : OpenLaw) (_ : Params → Frag) => True) Challenge.rw_pg0168_02 hdA.heap_1_1 := by k_fill; exact True.intro
  clear hlaw
  intro p loose mean mg mb dp un gd cn cs L a ccd cl outer A₀ base h₀ m s Q E B F X N T hH hcs hdp hun hret
  obtain ⟨ck, cnm, cg, cc, cm⟩ := cs
  obtain rfl : ck = .function := hcs
  obtain ⟨hH1, hH2⟩ := hH
  replace X : (hdA.heap_1_1 w.params).In h₀ := X
  refine wpAny_call ?_
  k_dflt k_enter
  (repeat' ((fail_if_success (first | (with_reducible show wpAny _ _ (call (Value.ref _) _) _ _ _) | (with_reducible show wpAny _ _ (pyIter _) _ _ _) | (with_reducible show UnrPost _ _ _ _ _ _ _ _ _) | (with_reducible show wpAny _ _ (exec (Stmt.Assign _ (PySem.Expr.ListComp _ _ _ _) _) _) _ _ _) | (with_reducible show wpAny _ _ (eval (PySem.Expr.ListComp _ _ _ _) _) _ _ _) | (with_reducible show wpAny _ _ (call (Value.type "zip") _) _ _ _) | (with_reducible show MEnd _ _ _ _ _ _ _ _ _ _ _ _ _) | (with_reducible show wpAny _ _ (exec (Stmt.For _ _ _ _ _) _) _ _ _) | (with_reducible show wpAny _ _ (exec (Stmt.While _ _ _ _) _) _ _ _) | (with_reducible show wpAny _ _ (eval (PySem.Expr.IfExp _ _ _ _) _) _ _ _) | (with_reducible show wpAny _ _ (binaryOp .Add (Value.ref _) (Value.ref _)) _ _ _))); first | (k_unfold; (try dsimp only)) | (k_end; wrow_close) | ((with_reducible show wpAny _ _ (eval (PySem.Expr.Name _ _) (envOfC _ _ _ _ _)) _ _ _); k_dflt (refine' nameX_L ?F ?v ?_ ?a ?b; (case F => k_asm); (case a => rfl); (case b => rfl); (case v => rfl); k_whole)) | ((with_reducible show wpAny _ _ (storeName _ _ _) _ _ _); k_dflt (refine' storeX_L ?F ?N ?_ ?a ?b; (case F => k_asm); (case N => k_asm); (case a => rfl); (case b => rfl); k_whole; intro _ _ _; (try k_sweep))) | walk1 | (dsimp only; walk1) | (leave1; walk_say "STEP leave1"; try dsimp only)))
  rename_i g1 L1 hA tkA FG1 B1 X1 T1 lA oP oK oR0 dP dK dR0 Dr hB q1 q2 q3 lB Dp hC q4 q5 q6 q7 lC hCc hE hF oR F1 N1 dR
  refine WhileStartP (n := 364) (PdP L1 Dp Df D figs ps R news) (PdX L1 R news) ?pe F1 (newsSub (T := (Dp, W.listOf [].toArray (0 + 1)) :: (L1 + 1 + 1 + 1, oP) :: (L1 + 1 + 1, oK) :: (L1 + 1, oR) :: ([(Dr, W.listOf [Value.int 0 tkA].toArray 0)] ++ news)) N1 ledP) ?start ?turn ?done
  case pe => first | passes_own | with_unfolding_all passes_own
  case start =>
    refine fun _ k => k [0] [] Dr [Value.int 0 tkA] [] 0 _ oP oK oR _ _ _ hR ⟨Nat.le_refl 1, by decide, fun x hx => by rw [List.mem_singleton.mp hx]; decide⟩ (List.forall_mem_nil _) (by decide) True.intro (.head _) (.cons 0 _ .nil) dP dK dR (FMC.all ⟨⟨Nat.ne_of_lt q4, Nat.ne_of_gt q3, Nat.ne_of_gt q2, Nat.ne_of_gt q1⟩, fun q hq => ⟨Nat.ne_of_lt (allLt_mem lC q hq), Nat.ne_of_lt (Nat.lt_succ_of_lt (allLt_mem lA q hq)), Nat.ne_of_lt (Nat.lt_succ_of_lt (Nat.lt_succ_of_lt (allLt_mem lA q hq))), Nat.ne_of_lt (Nat.lt_succ_of_lt (Nat.lt_succ_of_lt (Nat.lt_succ_of_lt (allLt_mem lA q hq))))⟩⟩) (FMC.all ⟨fun z hz => Nat.ne_of_lt (allLt_mem lB z hz), List.forall_mem_nil _⟩) rfl rfl rfl
  case done =>
    intro m nw hX
    apply hX
    clear hX
    intro Dr rv kr oR hi dR hne h9 tk9 F9 N9
    (repeat' ((fail_if_success (first | (with_reducible show wpAny _ _ (call (Value.ref _) _) _ _ _) | (with_reducible show wpAny _ _ (pyIter _) _ _ _) | (with_reducible show UnrPost _ _ _ _ _ _ _ _ _) | (with_reducible show wpAny _ _ (exec (Stmt.Assign _ (PySem.Expr.ListComp _ _ _ _) _) _) _ _ _) | (with_reducible show wpAny _ _ (eval (PySem.Expr.ListComp _ _ _ _) _) _ _ _) | (with_reducible show wpAny _ _ (call (Value.type "zip") _) _ _ _) | (with_reducible show MEnd _ _ _ _ _ _ _ _ _ _ _ _ _) | (with_reducible show wpAny _ _ (exec (Stmt.For _ _ _ _ _) _) _ _ _) | (with_reducible show wpAny _ _ (exec (Stmt.While _ _ _ _) _) _ _ _) | (with_reducible show wpAny _ _ (eval (PySem.Expr.IfExp _ _ _ _) _) _ _ _) | (with_reducible show wpAny _ _ (binaryOp .Add (Value.ref _) (Value.ref _)) _ _ _))); first | (k_unfold; (try dsimp only)) | (k_end; wrow_close) | walk1 | (dsimp only; walk1) | (leave1; walk_say "STEP leave1"; try dsimp only)))
    exact hret Dr rv kr hi hne _ _ (by k_asm) (newsSub (by k_asm) (FMC.all ⟨.head _, fun p hp => .tail _ (.tail _ hp)⟩))
  case turn =>
    intro n9 m nw hP
    apply hP
    clear hP
    intro row st Dr rv pv kr np oP oK oR vP vK rws hg hok hst hsz hpv hDr hrv dP dK dR hoff hap z1 z2 z3 h9 tk9 Q9 Qn9 E9 hE9 hU hUn F9 N9
    rw [mx3 z1 z2 z3] at F9
    have hlen : rv.length = row.length := ints_len hrv
    have h66 : row.length ≤ 6 := hok.2.1
    have hDr9 : (Dr, W.listOf rv.toArray kr) ∈ rws ++ news := List.mem_append_left _ hDr
    (repeat' ((fail_if_success (first | (with_reducible show wpAny _ _ (call (Value.ref _) _) _ _ _) | (with_reducible show wpAny _ _ (pyIter _) _ _ _) | (with_reducible show UnrPost _ _ _ _ _ _ _ _ _) | (with_reducible show wpAny _ _ (exec (Stmt.Assign _ (PySem.Expr.ListComp _ _ _ _) _) _) _ _ _) | (with_reducible show wpAny _ _ (eval (PySem.Expr.ListComp _ _ _ _) _) _ _ _) | (with_reducible show wpAny _ _ (call (Value.type "zip") _) _ _ _) | (with_reducible show MEnd _ _ _ _ _ _ _ _ _ _ _ _ _) | (with_reducible show wpAny _ _ (exec (Stmt.For _ _ _ _ _) _) _ _ _) | (with_reducible show wpAny _ _ (exec (Stmt.While _ _ _ _) _) _ _ _) | (with_reducible show wpAny _ _ (eval (PySem.Expr.IfExp _ _ _ _) _) _ _ _) | (with_reducible show wpAny _ _ (binaryOp .Add (Value.ref _) (Value.ref _)) _ _ _))); first | (k_unfold; (try dsimp only)) | (k_end; wrow_close) | ((with_reducible show wpAny _ _ (call (Value.builtin "len") [(Value.ref _)]) _ _ _); (refine' my_len ?gN ?gm ?gl ?gf ?_); (case gN => k_asm); (case gm => k_mem); (case gl => with_reducible assumption); (case gf => omega); intro _) | walk1 | (dsimp only; walk1) | (leave1; walk_say "STEP leave1"; try dsimp only)))
    by_cases hl6 : row.length < 6
    · obtain ⟨n8, en, hg8⟩ := dfs_turn hg hl6
      subst en
      refine WhlIf.yes (decide_eq_true (by exact Int.ofNat_lt.mpr hl6)) ?_
      have hoP : ∀ q ∈ rws ++ news, q.1 ≠ Dp := fun q hq => (hoff q hq).1
      have hoK : ∀ q ∈ rws ++ news, q.1 ≠ L1 + 1 + 1 := fun q hq => (hoff q hq).2.2.1
      have hoR : ∀ q ∈ rws ++ news, q.1 ≠ L1 + 1 := fun q hq => (hoff q hq).2.1
      have hoC : ∀ q ∈ rws ++ news, q.1 ≠ L1 + 1 + 1 + 1 := fun q hq => (hoff q hq).2.2.2
      (repeat' ((fail_if_success (first | (with_reducible show wpAny _ _ (call (Value.ref _) _) _ _ _) | (with_reducible show wpAny _ _ (pyIter _) _ _ _) | (with_reducible show UnrPost _ _ _ _ _ _ _ _ _) | (with_reducible show wpAny _ _ (exec (Stmt.Assign _ (PySem.Expr.ListComp _ _ _ _) _) _) _ _ _) | (with_reducible show wpAny _ _ (eval (PySem.Expr.ListComp _ _ _ _) _) _ _ _) | (with_reducible show wpAny _ _ (call (Value.type "zip") _) _ _ _) | (with_reducible show MEnd _ _ _ _ _ _ _ _ _ _ _ _ _) | (with_reducible show wpAny _ _ (exec (Stmt.For _ _ _ _ _) _) _ _ _) | (with_reducible show wpAny _ _ (exec (Stmt.While _ _ _ _) _) _ _ _) | (with_reducible show wpAny _ _ (eval (PySem.Expr.IfExp _ _ _ _) _) _ _ _) | (with_reducible show wpAny _ _ (binaryOp .Add (Value.ref _) (Value.ref _)) _ _ _))); first | (k_unfold; (try dsimp only)) | (k_end; wrow_close) | ((with_reducible show wpAny _ _ (call (Value.builtin "len") [(Value.ref _)]) _ _ _); (refine' my_len ?gN ?gm ?gl ?gf ?_); (case gN => k_asm); (case gm => k_mem); (case gl => with_reducible assumption); (case gf => omega); intro _) | walk1 | (dsimp only; walk1) | (leave1; walk_say "STEP leave1"; try dsimp only)))
      (with_reducible rename Fr _ _ _ _ => lF)
      with_unfolding_all refine' For_invVF (hE := hE9) lF ?k1 ?k2 ?_
      case k1 => exact rfl
      case k2 => exact rfl
      (repeat' ((fail_if_success (first | (with_reducible show wpAny _ _ (call (Value.ref _) _) _ _ _) | (with_reducible show wpAny _ _ (pyIter _) _ _ _) | (with_reducible show UnrPost _ _ _ _ _ _ _ _ _) | (with_reducible show wpAny _ _ (exec (Stmt.Assign _ (PySem.Expr.ListComp _ _ _ _) _) _) _ _ _) | (with_reducible show wpAny _ _ (eval (PySem.Expr.ListComp _ _ _ _) _) _ _ _) | (with_reducible show wpAny _ _ (call (Value.type "zip") _) _ _ _) | (with_reducible show MEnd _ _ _ _ _ _ _ _ _ _ _ _ _) | (with_reducible show wpAny _ _ (exec (Stmt.For _ _ _ _ _) _) _ _ _) | (with_reducible show wpAny _ _ (exec (Stmt.While _ _ _ _) _) _ _ _) | (with_reducible show wpAny _ _ (eval (PySem.Expr.IfExp _ _ _ _) _) _ _ _) | (with_reducible show wpAny _ _ (binaryOp .Add (Value.ref _) (Value.ref _)) _ _ _))); first | (k_unfold; (try dsimp only)) | (k_end; wrow_close) | walk1 | (dsimp only; walk1) | (leave1; walk_say "STEP leave1"; try dsimp only)))
      rename_i tk8 hK oK2 dK2 Dl hL F2 N2 r1 r2 r3 r4 lL
      refine three_toks N2 ?_
      clear N2
      intro u2 u1 u0 N2
      replace N2 := newsSub N2 ledQ
      refine' iter_listUnr (vs := [Value.int 2 u2, Value.int 1 u1, Value.int 0 u0]) (n := 0) rfl ?Fb N2 (.tail _ (.tail _ (.tail _ (.tail _ (.head _))))) rfl rfl ?rest
      case Fb => k_asm
      case rest =>
        intro I hI
        have i1 : @LT.lt Nat _ Dp I := hI _ (.head _)
        have i2 : @LT.lt Nat _ (L1 + 1 + 1 + 1) I := hI _ (.tail _ (.head _))
        have i5 : @LT.lt Nat _ Dl I := hI _ (.tail _ (.tail _ (.tail _ (.tail _ (.head _)))))
        refine ListIndQ (PeP I L1 Dp Df D Dr (Dl, W.listOf [Value.int 2 u2, Value.int 1 u1, Value.int 0 u0].toArray 0) figs ps row R rv kr oK2 oR news n8) ?turn2 ?done2 _ _ _ ?start2
        case start2 => exact fun _ k => k [(2, u2), (1, u1), (0, u0)] st pv np oP vP rws rfl (all3 (show (2 : Nat) < 3 by decide) (show (1 : Nat) < 3 by decide) (show (0 : Nat) < 3 by decide)) hg8 hst (by rw [Nat.mul_add] at hsz; show st.length + 3 + 2 * n8 ≤ 801; omega) hpv hDr dP (fun q hq => ⟨hoP q hq, hoR q hq, hoK q hq, hoC q hq, Nat.ne_of_lt (hI q (.tail _ (.tail _ (.tail _ (.tail _ (.tail _ hq))))))⟩) hap rfl rfl rfl
        case done2 =>
          intro m nw hP
          apply hP
          clear hP
          intro tl st2 pv2 np2 oP2 vP2 rws2 he hl3 hg2 hst2 hsz2 hpv2 hDr2 dP2 hoff2 hap2 z1 z2 z3 h8 tk7 F8 N8
          cases tl with
          | cons => cases he
          | nil =>
            obtain ⟨r', s', rfl⟩ := dfs_pop hg2
            rw [List.reverse_cons] at hpv2
            obtain ⟨p2, a2, w2, k2, rfl, hma, hia, hp2⟩ := hpv2.split
            rw [mx3 z1 z2 z3] at F8
            have hp8 : (p2 ++ [Value.ref a2]).length ≤ 1000 := by rw [hpv2.len, List.length_append, List.length_reverse]; exact Nat.le_trans (Nat.le_trans (Nat.le_add_right _ _) (Nat.le_trans (Nat.le_add_right _ _) hsz2)) (by decide)
            have hp9 : p2 ++ [Value.ref a2] = p2 ++ [Value.ref a2] := rfl
            have hoP2 : ∀ q ∈ rws2 ++ news, q.1 ≠ Dp := fun q hq => (hoff2 q hq).1
            have hoR2 : ∀ q ∈ rws2 ++ news, q.1 ≠ L1 + 1 := fun q hq => (hoff2 q hq).2.1
            (repeat' ((fail_if_success (first | (with_reducible show wpAny _ _ (call (Value.ref _) _) _ _ _) | (with_reducible show wpAny _ _ (pyIter _) _ _ _) | (with_reducible show UnrPost _ _ _ _ _ _ _ _ _) | (with_reducible show wpAny _ _ (exec (Stmt.Assign _ (PySem.Expr.ListComp _ _ _ _) _) _) _ _ _) | (with_reducible show wpAny _ _ (eval (PySem.Expr.ListComp _ _ _ _) _) _ _ _) | (with_reducible show wpAny _ _ (call (Value.type "zip") _) _ _ _) | (with_reducible show MEnd _ _ _ _ _ _ _ _ _ _ _ _ _) | (with_reducible show wpAny _ _ (exec (Stmt.For _ _ _ _ _) _) _ _ _) | (with_reducible show wpAny _ _ (exec (Stmt.While _ _ _ _) _) _ _ _) | (with_reducible show wpAny _ _ (eval (PySem.Expr.IfExp _ _ _ _) _) _ _ _) | (with_reducible show wpAny _ _ (binaryOp .Add (Value.ref _) (Value.ref _)) _ _ _))); first | (k_unfold; (try dsimp only)) | (k_end; wrow_close) | ((with_reducible show wpAny _ _ (call (Value.builtin "list.pop") _) _ _ _); (refine' my_pop ?gF ?gN ?ge ?gU ?gz ?_; (case gF => k_asm); (case gN => k_asm); (case gU => k_upd); (case ge => with_reducible assumption); (case gz => with_reducible assumption)); intro _ _ _) | ((with_reducible show wpAny _ _ (eval (PySem.Expr.Name _ _) (envOfC _ _ _ _ _)) _ _ _); k_dflt (refine' nameX_L ?F ?v ?_ ?a ?b; (case F => k_asm); (case a => rfl); (case b => rfl); (case v => rfl); k_whole)) | walk1 | (dsimp only; walk1) | (leave1; walk_say "STEP leave1"; try dsimp only)))
            rename_i F5 N5 h6 oR6 F6 N6 dR6
            exact hU F6 N6 ((Dp, W.listOf p2.toArray (np2 + 1)) :: (L1 + 1 + 1 + 1, oP2) :: (L1 + 1 + 1, oK2) :: (L1 + 1, oR6) :: (rws2 ++ news)) (by (repeat' first | exact List.forall_mem_nil _ | refine FMC.all ⟨by k_mem, ?_⟩ | (intro p9 hp9; (repeat' first | assumption | refine List.Mem.tail _ ?_)))) ⟨n8, Nat.lt_succ_self n8, fun _ k => k r' s' a2 w2 p2 k2 _ oP2 oK2 oR6 _ _ rws2 hg2 (hst2 _ (.head _)) (fun r hr => hst2 r (.tail _ hr)) (by have hz : s'.length + 1 + 0 + 2 * n8 ≤ 801 := hsz2; omega) hp2 hma hia dP2 dK2 dR6 (fun q hq => ⟨hoP2 q hq, hoR2 q hq, (hoff2 q hq).2.2.1, (hoff2 q hq).2.2.2.1⟩) hap2 rfl rfl rfl⟩
        case turn2 =>
          intro v us m nw hP
          apply hP
          clear hP
          intro tl st2 pv2 np2 oP2 vP2 rws2 he hl3 hg2 hst2 hsz2 hpv2 hDr2 dP2 hoff2 hap2 z1 z2 z3 it h8 tk7 Q8 E8 hU2 F8 N8
          cases tl with
          | nil => cases he
          | cons e tl =>
            obtain ⟨t, tt⟩ := e
            have he1 := (List.cons.inj he).1
            have he2 := (List.cons.inj he).2
            subst he1 he2
            clear he
            dsimp only at F8
            have ht3 : t < 3 := hl3 (t, tt) (.head _)
            obtain ⟨kx, kl⟩ := kid_lt hf hok ht3
            obtain ⟨ta, hta⟩ := last_at hrv hok.1
            obtain ⟨tb, htb⟩ := nats_at1 hv hok.1 (by rw [hf5]; exact Nat.le_of_lt_succ hl6)
            obtain ⟨hn0, hn1⟩ := cast_sub1 hok.1 h66
            have hrv0 : 0 < rv.length := by rw [hlen]; exact hok.1
            rw [mx3 z1 z2 z3] at F8
            have hDr3 := List.mem_append_left news hDr2
            have hm3 := List.mem_append_right rws2 hm
            have hD3 := List.mem_append_right rws2 hD
            have hoP2 : ∀ q ∈ rws2 ++ news, q.1 ≠ Dp := fun q hq => (hoff2 q hq).1
            have hoC2 : ∀ q ∈ rws2 ++ news, q.1 ≠ L1 + 1 + 1 + 1 := fun q hq => (hoff2 q hq).2.2.2.1
            (repeat' ((fail_if_success (first | (with_reducible show wpAny _ _ (call (Value.ref _) _) _ _ _) | (with_reducible show wpAny _ _ (pyIter _) _ _ _) | (with_reducible show UnrPost _ _ _ _ _ _ _ _ _) | (with_reducible show wpAny _ _ (exec (Stmt.Assign _ (PySem.Expr.ListComp _ _ _ _) _) _) _ _ _) | (with_reducible show wpAny _ _ (eval (PySem.Expr.ListComp _ _ _ _) _) _ _ _) | (with_reducible show wpAny _ _ (call (Value.type "zip") _) _ _ _) | (with_reducible show MEnd _ _ _ _ _ _ _ _ _ _ _ _ _) | (with_reducible show wpAny _ _ (exec (Stmt.For _ _ _ _ _) _) _ _ _) | (with_reducible show wpAny _ _ (exec (Stmt.While _ _ _ _) _) _ _ _) | (with_reducible show wpAny _ _ (eval (PySem.Expr.IfExp _ _ _ _) _) _ _ _) | (with_reducible show wpAny _ _ (binaryOp .Add (Value.ref _) (Value.ref _)) _ _ _))); first | (k_unfold; (try dsimp only)) | (k_end; wrow_close) | ((with_reducible show wpAny _ _ (subscriptTail _ _ (Value.ref _) (Value.int (-1) _)) _ _ _); refine' my_last ?gN ?gm ?gx ?g0 ?_; (case gN => k_asm); (case gm => k_mem); (case gx => with_reducible assumption); (case g0 => with_reducible assumption)) | ((with_reducible show wpAny _ _ (subscriptTail _ _ (Value.ref _) (Value.int _ _)) _ _ _); refine' my_at ?gN ?gm ?g0 ?g1 ?gx ?_; (case gN => k_asm); (case gm => k_mem); (case g0 => with_reducible assumption); (case g1 => with_reducible assumption); (case gx => with_reducible assumption)) | ((with_reducible show wpAny _ _ (eval (PySem.Expr.Name _ _) (envOfC _ _ _ _ _)) _ _ _); k_dflt (refine' nameX_L ?F ?v ?_ ?a ?b; (case F => k_asm); (case a => rfl); (case b => rfl); (case v => rfl); k_whole)) | walk1 | (dsimp only; walk1) | (leave1; walk_say "STEP leave1"; try dsimp only)))
            (with_reducible rename (_ = Data.cell _) => dP6)
            dsimp only at dP6
            rw [kx] at dP6
            (k_dflt (refine mc_List (ct := some _) (by k_asm) (by with_unfolding_all rfl) (by decide) (by rfl) (by decide) (by rfl) (by rfl) (by decide) ?_))
            (repeat' ((fail_if_success (first | (with_reducible show wpAny _ _ (call (Value.ref _) _) _ _ _) | (with_reducible show wpAny _ _ (pyIter _) _ _ _) | (with_reducible show UnrPost _ _ _ _ _ _ _ _ _) | (with_reducible show wpAny _ _ (exec (Stmt.Assign _ (PySem.Expr.ListComp _ _ _ _) _) _) _ _ _) | (with_reducible show wpAny _ _ (eval (PySem.Expr.ListComp _ _ _ _) _) _ _ _) | (with_reducible show wpAny _ _ (call (Value.type "zip") _) _ _ _) | (with_reducible show MEnd _ _ _ _ _ _ _ _ _ _ _ _ _) | (with_reducible show wpAny _ _ (exec (Stmt.For _ _ _ _ _) _) _ _ _) | (with_reducible show wpAny _ _ (exec (Stmt.While _ _ _ _) _) _ _ _) | (with_reducible show wpAny _ _ (eval (PySem.Expr.IfExp _ _ _ _) _) _ _ _) | (with_reducible show wpAny _ _ (binaryOp .Add (Value.ref _) (Value.ref _)) _ _ _))); first | (k_unfold; (try dsimp only)) | (k_end; wrow_close) | ((with_reducible show wpAny _ _ (eval (PySem.Expr.Name _ _) (envOfC _ _ _ _ _)) _ _ _); k_dflt (refine' nameX_L ?F ?v ?_ ?a ?b; (case F => k_asm); (case a => rfl); (case b => rfl); (case v => rfl); k_whole)) | walk1 | (dsimp only; walk1) | (leave1; walk_say "STEP leave1"; try dsimp only)))
            rename_i h6 oP6 F6 N6
            refine mc_pairs (ts := ts) (k := n) (by rfl) (by k_asm) N6 (.tail _ (.tail _ (.tail _ (.tail _ (.tail _ (.tail _ hD3)))))) (fun e he => .tail _ (.tail _ (.tail _ (.tail _ (.tail _ (.tail _ (List.mem_append_right rws2 (hin e he)))))))) (by rw [hts.len]; exact Nat.le_trans hpl (by decide)) (fun g i0 => ?_)
            refine mrest_pairsB (fun p => p.2 == row.length) (fun p => !(row.getD p.1 0 == paintOf figs row t)) (fun p => p.1 < p.2 ∧ p.2 ≤ 5) ?turnA ts ps [] [] _ hts hps .nil ?finA
            case turnA =>
              intro p tA u its C oC D2 m₂ ys h tk E' hp hi hC ha hb F N off offI offC ne
              simp only [List.cons_append] at N
              have hDr4 := List.mem_append_left its hDr3
              have w0 := Int.natCast_nonneg p.1
              have w2 := n_63 (Nat.lt_trans hp.1 (Nat.lt_succ_of_le hp.2))
              by_cases hj : p.2 = row.length
              · obtain ⟨tq, htq⟩ := nats_at hrv (j := p.1) (by rw [← hj]; exact hp.1)
                (repeat' ((fail_if_success (first | (with_reducible show wpAny _ _ (call (Value.ref _) _) _ _ _) | (with_reducible show wpAny _ _ (pyIter _) _ _ _) | (with_reducible show UnrPost _ _ _ _ _ _ _ _ _) | (with_reducible show wpAny _ _ (exec (Stmt.Assign _ (PySem.Expr.ListComp _ _ _ _) _) _) _ _ _) | (with_reducible show wpAny _ _ (eval (PySem.Expr.ListComp _ _ _ _) _) _ _ _) | (with_reducible show wpAny _ _ (call (Value.type "zip") _) _ _ _) | (with_reducible show MEnd _ _ _ _ _ _ _ _ _ _ _ _ _) | (with_reducible show wpAny _ _ (exec (Stmt.For _ _ _ _ _) _) _ _ _) | (with_reducible show wpAny _ _ (exec (Stmt.While _ _ _ _) _) _ _ _) | (with_reducible show wpAny _ _ (eval (PySem.Expr.IfExp _ _ _ _) _) _ _ _) | (with_reducible show wpAny _ _ (binaryOp .Add (Value.ref _) (Value.ref _)) _ _ _))); first | (k_unfold; (try dsimp only)) | (k_end; wrow_close) | ((with_reducible show wpAny _ _ (subscriptTail _ _ (Value.ref _) (Value.int _ _)) _ _ _); refine' my_at ?gN ?gm ?g0 ?g1 ?gx ?_; (case gN => k_asm); (case gm => k_mem); (case g0 => with_reducible assumption); (case g1 => with_reducible assumption); (case gx => with_reducible assumption)) | ((with_reducible show ite _ _ _); refine ite_pos (by first | omega | (simp only [beq_iff_eq, bne_iff_ne, decide_eq_true_eq, Int.not_lt, Int.not_le]; omega)) ?_) | ((with_reducible show wpAny _ _ (eval (PySem.Expr.Name _ _) (compEnvC _ _ _ _)) _ _ _); k_dflt (refine LCgL.ld_own (by k_asm) (by k_mem) (by assumption) (by assumption) ?_)) | walk1 | (dsimp only; walk1) | (leave1; walk_say "STEP leave1"; try dsimp only)))
                exact MEnd.intro F N _ (fun p hp => hp) off offI (FMC.all ⟨.tail _ (.tail _ (.tail _ (.tail _ (.tail _ (.tail _ hD3))))), fun q hq => .tail _ (.tail _ (.tail _ (.tail _ (.tail _ (.tail _ (List.mem_append_right rws2 (keep_mem hin q hq)))))))⟩) ⟨rfl, beq_iff_eq.mpr hj, ne_bool _ _⟩
              · (repeat' ((fail_if_success (first | (with_reducible show wpAny _ _ (call (Value.ref _) _) _ _ _) | (with_reducible show wpAny _ _ (pyIter _) _ _ _) | (with_reducible show UnrPost _ _ _ _ _ _ _ _ _) | (with_reducible show wpAny _ _ (exec (Stmt.Assign _ (PySem.Expr.ListComp _ _ _ _) _) _) _ _ _) | (with_reducible show wpAny _ _ (eval (PySem.Expr.ListComp _ _ _ _) _) _ _ _) | (with_reducible show wpAny _ _ (call (Value.type "zip") _) _ _ _) | (with_reducible show MEnd _ _ _ _ _ _ _ _ _ _ _ _ _) | (with_reducible show wpAny _ _ (exec (Stmt.For _ _ _ _ _) _) _ _ _) | (with_reducible show wpAny _ _ (exec (Stmt.While _ _ _ _) _) _ _ _) | (with_reducible show wpAny _ _ (eval (PySem.Expr.IfExp _ _ _ _) _) _ _ _) | (with_reducible show wpAny _ _ (binaryOp .Add (Value.ref _) (Value.ref _)) _ _ _))); first | (k_unfold; (try dsimp only)) | (k_end; wrow_close) | ((with_reducible show ite _ _ _); refine ite_neg (by first | omega | (simp only [beq_iff_eq, bne_iff_ne, decide_eq_true_eq, Int.not_lt, Int.not_le]; omega)) ?_) | ((with_reducible show wpAny _ _ (eval (PySem.Expr.Name _ _) (compEnvC _ _ _ _)) _ _ _); k_dflt (refine LCgL.ld_own (by k_asm) (by k_mem) (by assumption) (by assumption) ?_)) | walk1 | (dsimp only; walk1) | (leave1; walk_say "STEP leave1"; try dsimp only)))
                exact MEnd.intro F N _ (fun p hp => hp) off offI (FMC.all ⟨.tail _ (.tail _ (.tail _ (.tail _ (.tail _ (.tail _ hD3))))), fun q hq => .tail _ (.tail _ (.tail _ (.tail _ (.tail _ (.tail _ (List.mem_append_right rws2 (keep_mem hin q hq)))))))⟩) ⟨rfl, beq_eq_false_iff_ne.mpr hj⟩
            case finA =>
              intro n' zs cs hz hzl
              intro D9 h9 tk9 q9 F9 N9 ne9 lt9
              clear ne9
              (repeat' ((fail_if_success (first | (with_reducible show wpAny _ _ (call (Value.ref _) _) _ _ _) | (with_reducible show wpAny _ _ (pyIter _) _ _ _) | (with_reducible show UnrPost _ _ _ _ _ _ _ _ _) | (with_reducible show wpAny _ _ (exec (Stmt.Assign _ (PySem.Expr.ListComp _ _ _ _) _) _) _ _ _) | (with_reducible show wpAny _ _ (eval (PySem.Expr.ListComp _ _ _ _) _) _ _ _) | (with_reducible show wpAny _ _ (call (Value.type "zip") _) _ _ _) | (with_reducible show MEnd _ _ _ _ _ _ _ _ _ _ _ _ _) | (with_reducible show wpAny _ _ (exec (Stmt.For _ _ _ _ _) _) _ _ _) | (with_reducible show wpAny _ _ (exec (Stmt.While _ _ _ _) _) _ _ _) | (with_reducible show wpAny _ _ (eval (PySem.Expr.IfExp _ _ _ _) _) _ _ _) | (with_reducible show wpAny _ _ (binaryOp .Add (Value.ref _) (Value.ref _)) _ _ _))); first | (k_unfold; (try dsimp only)) | (k_end; wrow_close) | walk1 | (dsimp only; walk1) | (leave1; walk_say "STEP leave1"; try dsimp only)))
              have hD9 : @LT.lt Nat _ Dp D9 := lt9 _ (.tail _ (.head _))
              clear lt9
              replace hzl : cs.all id = okPt ps row (paintOf figs row t) := hzl
              refine my_all rfl F9 N9 (.head _) hz hzl ?_
              clear hz hzl F9 N9
              intro h5 tk5 F9 N9
              have hsz3 : st2.length + (tl.length + 1) + 2 * n8 ≤ 801 := hsz2
              by_cases hk9 : okPt ps row (paintOf figs row t) = true
              · have hg3 : dfs figs ps n8 (kidsR figs ps row (tl.map Prod.fst) ((row ++ [paintOf figs row t]) :: st2)) = some R := by
                  have h := hg2
                  rw [List.map_cons, kidsR, kid, if_pos hk9] at h
                  exact h
                rw [hk9]
                (repeat' ((fail_if_success (first | (with_reducible show wpAny _ _ (call (Value.ref _) _) _ _ _) | (with_reducible show wpAny _ _ (pyIter _) _ _ _) | (with_reducible show UnrPost _ _ _ _ _ _ _ _ _) | (with_reducible show wpAny _ _ (exec (Stmt.Assign _ (PySem.Expr.ListComp _ _ _ _) _) _) _ _ _) | (with_reducible show wpAny _ _ (eval (PySem.Expr.ListComp _ _ _ _) _) _ _ _) | (with_reducible show wpAny _ _ (call (Value.type "zip") _) _ _ _) | (with_reducible show MEnd _ _ _ _ _ _ _ _ _ _ _ _ _) | (with_reducible show wpAny _ _ (exec (Stmt.For _ _ _ _ _) _) _ _ _) | (with_reducible show wpAny _ _ (exec (Stmt.While _ _ _ _) _) _ _ _) | (with_reducible show wpAny _ _ (eval (PySem.Expr.IfExp _ _ _ _) _) _ _ _) | (with_reducible show wpAny _ _ (binaryOp .Add (Value.ref _) (Value.ref _)) _ _ _))); first | (k_unfold; (try dsimp only)) | (k_end; wrow_close) | ((with_reducible show ite _ _ _); refine ite_pos (by decide +kernel) ?_) | ((with_reducible show wpAny _ _ (eval (PySem.Expr.Name _ _) (envOfC _ _ _ _ _)) _ _ _); k_dflt (refine' nameX_L ?F ?v ?_ ?a ?b; (case F => k_asm); (case a => rfl); (case b => rfl); (case v => rfl); k_whole)) | walk1 | (dsimp only; walk1) | (leave1; walk_say "STEP leave1"; try dsimp only)))
                rename_i D8 h8 F8 N8 r1 r2 r3 r4 r5 r6 r7 l8
                refine my_addL (us := [Value.int _ _]) F8 N8 (.tail _ (.tail _ (.tail _ (.tail _ (.tail _ (.tail _ (.tail _ (.tail _ hDr3)))))))) (.head _) (by rw [hlen]; exact Nat.le_trans (Nat.add_le_add_right h66 1) (by decide)) ?_
                clear F8 N8
                intro D7 h7 F7 N7 lt7
                k_lt lt7
                rename_i s1 s2 s3 s4 s5 s6 s7 s8
                have hps2 : pv2.toArray.size ≤ sizeLine := by rw [List.size_toArray, hpv2.len, List.length_reverse, PySem.sizeLine_eq]; exact Nat.le_trans (Nat.le_trans (Nat.le_add_right _ _) (Nat.le_trans (Nat.le_add_right _ _) hsz3)) (by decide)
                (repeat' ((fail_if_success (first | (with_reducible show wpAny _ _ (call (Value.ref _) _) _ _ _) | (with_reducible show wpAny _ _ (pyIter _) _ _ _) | (with_reducible show UnrPost _ _ _ _ _ _ _ _ _) | (with_reducible show wpAny _ _ (exec (Stmt.Assign _ (PySem.Expr.ListComp _ _ _ _) _) _) _ _ _) | (with_reducible show wpAny _ _ (eval (PySem.Expr.ListComp _ _ _ _) _) _ _ _) | (with_reducible show wpAny _ _ (call (Value.type "zip") _) _ _ _) | (with_reducible show MEnd _ _ _ _ _ _ _ _ _ _ _ _ _) | (with_reducible show wpAny _ _ (exec (Stmt.For _ _ _ _ _) _) _ _ _) | (with_reducible show wpAny _ _ (exec (Stmt.While _ _ _ _) _) _ _ _) | (with_reducible show wpAny _ _ (eval (PySem.Expr.IfExp _ _ _ _) _) _ _ _) | (with_reducible show wpAny _ _ (binaryOp .Add (Value.ref _) (Value.ref _)) _ _ _))); first | (k_unfold; (try dsimp only)) | (k_end; wrow_close) | ((with_reducible show wpAny _ _ (call (Value.builtin "list.append") [(Value.ref _), _]) _ _ _); (k_dflt (refine' append_K ?gF ?gN ?gU ?_ ?gz; (case gF => k_asm); (case gN => k_asm); (case gU => k_upd); (case gz => with_reducible assumption); k_whole)); intro _ _ _) | walk1 | (dsimp only; walk1) | (leave1; walk_say "STEP leave1"; try dsimp only)))
                rename_i F6 N6
                rw [List.push_toArray] at N6
                have ap7 : ∀ z ∈ news, z.1 ≠ D7 := fun z hz => Nat.ne_of_lt (allLt_mem lt7 z (List.mem_append_right _ hz))
                exact hU2 F6 N6 ((Dp, W.listOf (pv2 ++ [Value.ref D7]).toArray (np2 + 1)) :: (L1 + 1 + 1 + 1, oP6) :: (L1 + 1 + 1, oK2) :: (L1 + 1, oR) :: (Dl, W.listOf [Value.int 2 u2, Value.int 1 u1, Value.int 0 u0].toArray 0) :: (((D7, W.listOf (rv ++ [Value.int _ _]).toArray 0) :: rws2) ++ news)) (by (repeat' first | exact List.forall_mem_nil _ | refine FMC.all ⟨by k_mem, ?_⟩ | (intro p9 hp9; (repeat' first | assumption | refine List.Mem.tail _ ?_)))) (FMC.all ⟨Nat.ne_of_lt i1, FMC.all ⟨Nat.ne_of_lt i2, FMC.all ⟨Nat.ne_of_lt (Nat.lt_of_succ_lt i2), FMC.all ⟨Nat.ne_of_lt (Nat.lt_of_succ_lt (Nat.lt_of_succ_lt i2)), FMC.all ⟨Nat.ne_of_lt i5, FMC.all ⟨Nat.ne_of_gt s3, fun q hq => (hoff2 q hq).2.2.2.2⟩⟩⟩⟩⟩⟩)
                  ⟨.tail _ (.tail _ (.tail _ (.tail _ (.head _)))), fun _ k => k tl ((row ++ [paintOf figs row t]) :: st2) (pv2 ++ [Value.ref D7]) _ oP6 _ ((D7, W.listOf (rv ++ [Value.int _ _]).toArray 0) :: rws2) rfl (fun e he => hl3 e (.tail _ he)) hg3 (FMC.all ⟨hok.snoc hl6 kl, hst2⟩) (by rw [List.length_cons]; omega) (by rw [List.reverse_cons]; exact RowsAre.snoc (.head _) (ints_snocN hrv) (hpv2.mono (fun p hp => .tail _ hp))) (.tail _ hDr2) dP6 (FMC.all ⟨⟨Nat.ne_of_gt s4, Nat.ne_of_gt s7, Nat.ne_of_gt s6, Nat.ne_of_gt s5, Nat.ne_of_gt s3⟩, hoff2⟩) (FMC.all ⟨ap7, hap2⟩) rfl rfl rfl⟩
              · have hg3 : dfs figs ps n8 (kidsR figs ps row (tl.map Prod.fst) st2) = some R := by
                  have h := hg2
                  rw [List.map_cons, kidsR, kid, if_neg hk9] at h
                  exact h
                rw [Bool.not_eq_true _ |>.mp hk9]
                (repeat' ((fail_if_success (first | (with_reducible show wpAny _ _ (call (Value.ref _) _) _ _ _) | (with_reducible show wpAny _ _ (pyIter _) _ _ _) | (with_reducible show UnrPost _ _ _ _ _ _ _ _ _) | (with_reducible show wpAny _ _ (exec (Stmt.Assign _ (PySem.Expr.ListComp _ _ _ _) _) _) _ _ _) | (with_reducible show wpAny _ _ (eval (PySem.Expr.ListComp _ _ _ _) _) _ _ _) | (with_reducible show wpAny _ _ (call (Value.type "zip") _) _ _ _) | (with_reducible show MEnd _ _ _ _ _ _ _ _ _ _ _ _ _) | (with_reducible show wpAny _ _ (exec (Stmt.For _ _ _ _ _) _) _ _ _) | (with_reducible show wpAny _ _ (exec (Stmt.While _ _ _ _) _) _ _ _) | (with_reducible show wpAny _ _ (eval (PySem.Expr.IfExp _ _ _ _) _) _ _ _) | (with_reducible show wpAny _ _ (binaryOp .Add (Value.ref _) (Value.ref _)) _ _ _))); first | (k_unfold; (try dsimp only)) | (k_end; wrow_close) | ((with_reducible show ite _ _ _); refine ite_neg (by decide +kernel) ?_) | walk1 | (dsimp only; walk1) | (leave1; walk_say "STEP leave1"; try dsimp only)))
                exact hU2 F9 N9 ((Dp, W.listOf pv2.toArray np2) :: (L1 + 1 + 1 + 1, oP6) :: (L1 + 1 + 1, oK2) :: (L1 + 1, oR) :: (Dl, W.listOf [Value.int 2 u2, Value.int 1 u1, Value.int 0 u0].toArray 0) :: (rws2 ++ news)) (fun p hp => .tail _ hp) (FMC.all ⟨Nat.ne_of_lt i1, FMC.all ⟨Nat.ne_of_lt i2, FMC.all ⟨Nat.ne_of_lt (Nat.lt_of_succ_lt i2), FMC.all ⟨Nat.ne_of_lt (Nat.lt_of_succ_lt (Nat.lt_of_succ_lt i2)), FMC.all ⟨Nat.ne_of_lt i5, fun q hq => (hoff2 q hq).2.2.2.2⟩⟩⟩⟩⟩)
                  ⟨.tail _ (.tail _ (.tail _ (.tail _ (.head _)))), fun _ k => k tl st2 pv2 np2 oP6 _ rws2 rfl (fun e he => hl3 e (.tail _ he)) hg3 hst2 (Nat.le_of_succ_le (by omega)) hpv2 hDr2 dP6 hoff2 hap2 rfl rfl rfl⟩
    · obtain rfl := dfs_done hg hl6
      refine WhlIf.no (decide_eq_false (fun h => hl6 (Int.ofNat_lt.mp h))) ?_
      (repeat' ((fail_if_success (first | (with_reducible show wpAny _ _ (call (Value.ref _) _) _ _ _) | (with_reducible show wpAny _ _ (pyIter _) _ _ _) | (with_reducible show UnrPost _ _ _ _ _ _ _ _ _) | (with_reducible show wpAny _ _ (exec (Stmt.Assign _ (PySem.Expr.ListComp _ _ _ _) _) _) _ _ _) | (with_reducible show wpAny _ _ (eval (PySem.Expr.ListComp _ _ _ _) _) _ _ _) | (with_reducible show wpAny _ _ (call (Value.type "zip") _) _ _ _) | (with_reducible show MEnd _ _ _ _ _ _ _ _ _ _ _ _ _) | (with_reducible show wpAny _ _ (exec (Stmt.For _ _ _ _ _) _) _ _ _) | (with_reducible show wpAny _ _ (exec (Stmt.While _ _ _ _) _) _ _ _) | (with_reducible show wpAny _ _ (eval (PySem.Expr.IfExp _ _ _ _) _) _ _ _) | (with_reducible show wpAny _ _ (binaryOp .Add (Value.ref _) (Value.ref _)) _ _ _))); first | (k_unfold; (try dsimp only)) | (k_end; wrow_close) | walk1 | (dsimp only; walk1) | (leave1; walk_say "STEP leave1"; try dsimp only)))
      exact hUn (by k_asm) (by k_asm) ((Dr, W.listOf rv.toArray kr) :: (L1 + 1, oR) :: news) (FMC.all ⟨.tail _ (.tail _ (.tail _ (.tail _ (List.mem_append_left _ hDr)))), FMC.all ⟨.tail _ (.tail _ (.tail _ (.head _))), fun p hp => .tail _ (.tail _ (.tail _ (.tail _ (List.mem_append_right _ hp))))⟩⟩) (fun _ k => k Dr rv kr oR hrv dR (hap _ hDr))
set_option compiler.extract_closed false
theorem law_post (as : List WData) : PySem.Challenge.rw_pg0168_02.row.toRowW.claim.post as (.bool true) as = true := by
  exact postW_of (by wrow_shape) (by wtm_val) (by w_fin)
noncomputable def main.tw10234815189450012239 : Unit := ()
noncomputable def main.tw10298723112805639129 : Unit := ()
noncomputable def main.tw104360540948158410 : Unit := ()
noncomputable def main.tw10450603732522932521 : Unit := ()
noncomputable def main.tw10669944970481658594 : Unit := ()
noncomputable def main.tw10707853282979444102 : Unit := ()
noncomputable def main.tw10821422270917381399 : Unit := ()
noncomputable def main.tw10877679251791092727 : Unit := ()
noncomputable def main.tw1099256609624015869 : Unit := ()
noncomputable def main.tw11101190512080308003 : Unit := ()
noncomputable def main.tw11461230924637031220 : Unit := ()
noncomputable def main.tw11544348965984651327 : Unit := ()
noncomputable def main.tw11554813239044494598 : Unit := ()
noncomputable def main.tw11646826074482590764 : Unit := ()
noncomputable def main.tw11710404883906591787 : Unit := ()
noncomputable def main.tw12077450504624328385 : Unit := ()
noncomputable def main.tw12113315764499514685 : Unit := ()
noncomputable def main.tw1270039299266317192 : Unit := ()
noncomputable def main.tw12872379398031375081 : Unit := ()
noncomputable def main.tw13110577991587790113 : Unit := ()
noncomputable def main.tw13219505800766818778 : Unit := ()
noncomputable def main.tw13224007501803129859 : Unit := ()
noncomputable def main.tw13377095143986139616 : Unit := ()
noncomputable def main.tw13402765919934010277 : Unit := ()
noncomputable def main.tw13667920496262714385 : Unit := ()
noncomputable def main.tw13777938177461255882 : Unit := ()
noncomputable def main.tw13838900630717943254 : Unit := ()
noncomputable def main.tw1409966394225722968 : Unit := ()
noncomputable def main.tw14510055921401542917 : Unit := ()
noncomputable def main.tw14672674291997333471 : Unit := ()
noncomputable def main.tw14722489848711283861 : Unit := ()
noncomputable def main.tw14771111431291430275 : Unit := ()
noncomputable def main.tw15131278010643852716 : Unit := ()
noncomputable def main.tw15342904991969174519 : Unit := ()
noncomputable def main.tw15514936471743626214 : Unit := ()
noncomputable def main.tw15649996292582860464 : Unit := ()
noncomputable def main.tw15734200111481486640 : Unit := ()
noncomputable def main.tw15734660467963936456 : Unit := ()
noncomputable def main.tw15768048840197415361 : Unit := ()
noncomputable def main.tw15806524323241146399 : Unit := ()
noncomputable def main.tw16049902774474827687 : Unit := ()
noncomputable def main.tw16102231251864390963 : Unit := ()
noncomputable def main.tw16153842264607907944 : Unit := ()
noncomputable def main.tw1615956725737779560 : Unit := ()
noncomputable def main.tw16193401482309157537 : Unit := ()
noncomputable def main.tw16251939892948500945 : Unit := ()
noncomputable def main.tw1632041292262086317 : Unit := ()
noncomputable def main.tw16356685582667847594 : Unit := ()
noncomputable def main.tw16519101796099990279 : Unit := ()
noncomputable def main.tw16572128252103988241 : Unit := ()
noncomputable def main.tw16656740534632174751 : Unit := ()
noncomputable def main.tw1677766988990989824 : Unit := ()
noncomputable def main.tw16778611742570070204 : Unit := ()
noncomputable def main.tw16798622893749714585 : Unit := ()
noncomputable def main.tw16923884221124529275 : Unit := ()
noncomputable def main.tw17068176615394109454 : Unit := ()
noncomputable def main.tw17561526911342447988 : Unit := ()
noncomputable def main.tw17665120845849184447 : Unit := ()
noncomputable def main.tw17695171507069755227 : Unit := ()
noncomputable def main.tw1777545030009416734 : Unit := ()
noncomputable def main.tw17974016328880235120 : Unit := ()
noncomputable def main.tw18134284020713443437 : Unit := ()
noncomputable def main.tw18218335207050127959 : Unit := ()
noncomputable def main.tw18332899500509843999 : Unit := ()
noncomputable def main.tw18442785490491869365 : Unit := ()
noncomputable def main.tw1900339198761634783 : Unit := ()
noncomputable def main.tw2238316416991798583 : Unit := ()
noncomputable def main.tw2821470743931037460 : Unit := ()
noncomputable def main.tw2852251193174398662 : Unit := ()
noncomputable def main.tw3045742163950154196 : Unit := ()
noncomputable def main.tw330327031418712150 : Unit := ()
noncomputable def main.tw3532412968194664532 : Unit := ()
noncomputable def main.tw3570300971023340979 : Unit := ()
noncomputable def main.tw3960113756560652017 : Unit := ()
noncomputable def main.tw4026956272090484662 : Unit := ()
noncomputable def main.tw4261964983698606537 : Unit := ()
noncomputable def main.tw4452170602077327944 : Unit := ()
noncomputable def main.tw451873465583785326 : Unit := ()
noncomputable def main.tw4544244032028310869 : Unit := ()
noncomputable def main.tw4605139254293405059 : Unit := ()
noncomputable def main.tw4681395471914393968 : Unit := ()
noncomputable def main.tw5396188567872606041 : Unit := ()
noncomputable def main.tw5400957986263281647 : Unit := ()
noncomputable def main.tw5532463470591059822 : Unit := ()
noncomputable def main.tw587328917346081906 : Unit := ()
noncomputable def main.tw6162249291895867263 : Unit := ()
noncomputable def main.tw6511744376749373798 : Unit := ()
noncomputable def main.tw6541472054586571296 : Unit := ()
noncomputable def main.tw6545385358150927430 : Unit := ()
noncomputable def main.tw6696893160125735727 : Unit := ()
noncomputable def main.tw7221758910455160077 : Unit := ()
noncomputable def main.tw7380652910202371479 : Unit := ()
noncomputable def main.tw750237026923860459 : Unit := ()
noncomputable def main.tw7527007724741192871 : Unit := ()
noncomputable def main.tw7658489382296110204 : Unit := ()
noncomputable def main.tw7698036289167662538 : Unit := ()
noncomputable def main.tw8466321980469482115 : Unit := ()
noncomputable def main.tw8475525182357872103 : Unit := ()
noncomputable def main.tw8478376212529829071 : Unit := ()
noncomputable def main.tw9272984997812220495 : Unit := ()
noncomputable def main.tw9302470337196694018 : Unit := ()
noncomputable def main.tw9658885295015712986 : Unit := ()
noncomputable def main.tw9670510015898674028 : Unit := ()
noncomputable def main.tw9730157408454304684 : Unit := ()
set_option Elab.async true in
set_option maxRecDepth 100000 in
set_option maxHeartbeats 40000000 in
theorem main : PySem.Challenge.rw_pg0168_02.Holds := by
  w_on
  o_law
  o_head (kmHook hdA.heap_1_1 [2, 3, 6, 15, 17, 18, 20, 21, 22, 24, 25, 27, 28, 29, 31, 32, 34, 35, 36, 38, 39, 41, 42, 43, 45, 46, 48, 49, 50, 52, 53, 55, 56, 57, 59, 60, 62, 63, 64, 66, 67, 69, 70, 71, 73, 74, 76, 77, 78, 80, 81, 83, 84, 85, 87, 88, 90, 91, 92, 95, 96, 97, 99, 100, 102, 103, 104, 107, 108, 109, 112, 113, 114, 117, 118] (fun _ => by kernel_rfl) [44, 37])
  (case hw => w_witness2)
  k_go0
  (repeat' ((fail_if_success (first | (with_reducible show wpAny _ _ (call (Value.ref _) _) _ _ _) | (with_reducible show wpAny _ _ (pyIter _) _ _ _) | (with_reducible show UnrPost _ _ _ _ _ _ _ _ _) | (with_reducible show wpAny _ _ (exec (Stmt.Assign _ (PySem.Expr.ListComp _ _ _ _) _) _) _ _ _) | (with_reducible show wpAny _ _ (eval (PySem.Expr.ListComp _ _ _ _) _) _ _ _) | (with_reducible show wpAny _ _ (call (Value.type "zip") _) _ _ _) | (with_reducible show MEnd _ _ _ _ _ _ _ _ _ _ _ _ _) | (with_reducible show wpAny _ _ (exec (Stmt.For _ _ _ _ _) _) _ _ _) | (with_reducible show wpAny _ _ (exec (Stmt.While _ _ _ _) _) _ _ _) | (with_reducible show wpAny _ _ (eval (PySem.Expr.IfExp _ _ _ _) _) _ _ _) | (with_reducible show wpAny _ _ (compareOp .NotEq (Value.ref _) (Value.ref _)) _ _ _))); first | (k_unfold; (try dsimp only)) | (k_end; wrow_close) | walk1 | (dsimp only; walk1) | (leave1; walk_say "STEP leave1"; try dsimp only)))
  rename_i w s0 s1 mg mb G Y fa o pm cd doc ho hcd hg Xm V T B TE TW script hs hlay hL1 hr1 hl2 a5 a4 scr vsc a1 hL ra w1 r0 hIs hrr hc1 hc2 hD hh1 tk1 oB oA dB dA XC XX TT KK F0 cH N0 q44 q37
  walk1
  (repeat' ((fail_if_success (first | (with_reducible show wpAny _ _ (call (Value.ref _) _) _ _ _) | (with_reducible show wpAny _ _ (pyIter _) _ _ _) | (with_reducible show UnrPost _ _ _ _ _ _ _ _ _) | (with_reducible show wpAny _ _ (exec (Stmt.Assign _ (PySem.Expr.ListComp _ _ _ _) _) _) _ _ _) | (with_reducible show wpAny _ _ (eval (PySem.Expr.ListComp _ _ _ _) _) _ _ _) | (with_reducible show wpAny _ _ (call (Value.type "zip") _) _ _ _) | (with_reducible show MEnd _ _ _ _ _ _ _ _ _ _ _ _ _) | (with_reducible show wpAny _ _ (exec (Stmt.For _ _ _ _ _) _) _ _ _) | (with_reducible show wpAny _ _ (exec (Stmt.While _ _ _ _) _) _ _ _) | (with_reducible show wpAny _ _ (eval (PySem.Expr.IfExp _ _ _ _) _) _ _ _) | (with_reducible show wpAny _ _ (compareOp .NotEq (Value.ref _) (Value.ref _)) _ _ _))); first | (k_unfold; (try dsimp only)) | (k_end; wrow_close) | walk1 | (dsimp only; walk1) | (leave1; walk_say "STEP leave1"; try dsimp only)))
  (k_dflt (refine mc_List (ct := none) (by k_asm) (by with_unfolding_all rfl) (by decide) (by rfl) (by decide) (by rfl) (by rfl) (by decide) ?_))
  (repeat' ((fail_if_success (first | (with_reducible show wpAny _ _ (call (Value.ref _) _) _ _ _) | (with_reducible show wpAny _ _ (pyIter _) _ _ _) | (with_reducible show UnrPost _ _ _ _ _ _ _ _ _) | (with_reducible show wpAny _ _ (exec (Stmt.Assign _ (PySem.Expr.ListComp _ _ _ _) _) _) _ _ _) | (with_reducible show wpAny _ _ (eval (PySem.Expr.ListComp _ _ _ _) _) _ _ _) | (with_reducible show wpAny _ _ (call (Value.type "zip") _) _ _ _) | (with_reducible show MEnd _ _ _ _ _ _ _ _ _ _ _ _ _) | (with_reducible show wpAny _ _ (exec (Stmt.For _ _ _ _ _) _) _ _ _) | (with_reducible show wpAny _ _ (exec (Stmt.While _ _ _ _) _) _ _ _) | (with_reducible show wpAny _ _ (eval (PySem.Expr.IfExp _ _ _ _) _) _ _ _) | (with_reducible show wpAny _ _ (compareOp .NotEq (Value.ref _) (Value.ref _)) _ _ _))); first | (k_unfold; (try dsimp only)) | (k_end; wrow_close) | walk1 | (dsimp only; walk1) | (leave1; walk_say "STEP leave1"; try dsimp only)))
  rename_i D2 ws2 hA F2 N2 hI2 z1 z2 z3 z4 z5 z6 z7 z8
  refine mc_zip (by rfl) (by k_asm) (by k_asm) Arm.list (Arm.list (a := D2) (vs := ws2) (n := 0)) (by (repeat' first | exact List.forall_mem_nil _ | refine FMC.all ⟨by k_mem, ?_⟩ | (intro p9 hp9; (repeat' first | assumption | refine List.Mem.tail _ ?_)))) (by (repeat' first | exact List.forall_mem_nil _ | refine FMC.all ⟨by k_mem, ?_⟩ | (intro p9 hp9; (repeat' first | assumption | refine List.Mem.tail _ ?_)))) rfl (by rw [List.length_zip, List.length_map]; exact Nat.le_trans (Nat.min_le_left _ _) (Nat.le_of_ble_eq_true rfl)) (fun g i0 => ?_)
  refine mrest_ints (fun x y => x + y) 0 ?turnAq7 _ _ [9, 2, 184] _ [] [] _ (Nat.zero_le _) (by repeat constructor) hI2 .nil ?finAq7
  case turnAq7 =>
    intro x y t u its C oC D m₂ ys h tk E' hn hi hC ha hb F N off offI offC ne
    (repeat' ((fail_if_success (first | (with_reducible show wpAny _ _ (call (Value.ref _) _) _ _ _) | (with_reducible show wpAny _ _ (pyIter _) _ _ _) | (with_reducible show UnrPost _ _ _ _ _ _ _ _ _) | (with_reducible show wpAny _ _ (exec (Stmt.Assign _ (PySem.Expr.ListComp _ _ _ _) _) _) _ _ _) | (with_reducible show wpAny _ _ (eval (PySem.Expr.ListComp _ _ _ _) _) _ _ _) | (with_reducible show wpAny _ _ (call (Value.type "zip") _) _ _ _) | (with_reducible show MEnd _ _ _ _ _ _ _ _ _ _ _ _ _) | (with_reducible show wpAny _ _ (exec (Stmt.For _ _ _ _ _) _) _ _ _) | (with_reducible show wpAny _ _ (exec (Stmt.While _ _ _ _) _) _ _ _) | (with_reducible show wpAny _ _ (eval (PySem.Expr.IfExp _ _ _ _) _) _ _ _) | (with_reducible show wpAny _ _ (compareOp .NotEq (Value.ref _) (Value.ref _)) _ _ _))); first | (k_unfold; (try dsimp only)) | (k_end; wrow_close) | ((with_reducible show wpAny _ _ (eval (PySem.Expr.Name _ _) (compEnvC _ _ _ _)) _ _ _); k_dflt (refine LCgL.ld_own (by k_asm) (by k_mem) (by assumption) (by assumption) ?_)) | walk1 | (dsimp only; walk1) | (leave1; walk_say "STEP leave1"; try dsimp only)))
    (refine MEnd.intro (by k_asm) (by k_asm) _ (fun p9 hp9 => hp9) (by with_reducible assumption) (by with_reducible assumption) ?gK9q7 ?_; (case gK9q7 => ((try simp only [List.cons_append, List.nil_append]); (repeat' first | exact List.forall_mem_nil _ | refine FMC.all ⟨by k_mem, ?_⟩ | (intro p9 hp9; (repeat' first | assumption | refine List.Mem.tail _ ?_))))))
    exact ⟨rfl, Nat.zero_le _, _, rfl⟩
  case finAq7 =>
    intro n' zs hn' hz
    obtain ⟨ways, other, num, ta, tb, tc, rfl⟩ := nums3 hz
    intro D3 hB tkB hgB FB NB neB ltB
    k_lt ltB
    clear hz hn' neB
    (repeat' ((fail_if_success (first | (with_reducible show wpAny _ _ (call (Value.ref _) _) _ _ _) | (with_reducible show wpAny _ _ (pyIter _) _ _ _) | (with_reducible show UnrPost _ _ _ _ _ _ _ _ _) | (with_reducible show wpAny _ _ (exec (Stmt.Assign _ (PySem.Expr.ListComp _ _ _ _) _) _) _ _ _) | (with_reducible show wpAny _ _ (eval (PySem.Expr.ListComp _ _ _ _) _) _ _ _) | (with_reducible show wpAny _ _ (call (Value.type "zip") _) _ _ _) | (with_reducible show MEnd _ _ _ _ _ _ _ _ _ _ _ _ _) | (with_reducible show wpAny _ _ (exec (Stmt.For _ _ _ _ _) _) _ _ _) | (with_reducible show wpAny _ _ (exec (Stmt.While _ _ _ _) _) _ _ _) | (with_reducible show wpAny _ _ (eval (PySem.Expr.IfExp _ _ _ _) _) _ _ _) | (with_reducible show wpAny _ _ (compareOp .NotEq (Value.ref _) (Value.ref _)) _ _ _))); first | (k_unfold; (try dsimp only)) | (k_end; wrow_close) | walk1 | (dsimp only; walk1) | (leave1; walk_say "STEP leave1"; try dsimp only)))
    rename_i hN oN dN hM hK FS NS
    obtain ⟨vB, dB⟩ : ∃ v, oB.data = .cell v := ⟨_, dB⟩
    obtain ⟨X, hX, hX9⟩ := mod_243 num
    rw [hX] at dN FS
    obtain ⟨tn, dN⟩ : ∃ t, oN.data = .cell (some (.int ((X : Nat) : Int) t)) := ⟨_, dN⟩
    replace NS := newsSub (T := (37, tabObj #[]) :: (44, tabObj #[]) :: (s1.heap.objs.size + 1 + 1, oB) :: (s1.heap.objs.size + 1, oN) :: []) NS (by (repeat' first | exact List.forall_mem_nil _ | refine FMC.all ⟨by k_mem, ?_⟩ | (intro p9 hp9; (repeat' first | assumption | refine List.Mem.tail _ ?_))))
    refine frGen4 FS (a := PySem.Str.ofString "ways") (b := PySem.Str.ofString "other") (c := PySem.Str.ofString "left") (d := PySem.Str.ofString "word") (by with_unfolding_all rfl) (by with_unfolding_all rfl) (by with_unfolding_all rfl) (by with_unfolding_all rfl) ?_
    clear FS
    intro m0 FS
    have kp := And.intro q44 (And.intro q37 (And.intro hX9 (And.intro FS (NS))))
    repeat (with_reducible rename News _ _ _ _ => zz; clear zz)
    repeat (with_reducible rename Fr _ _ _ _ => zz; clear zz)
    repeat (with_reducible rename AllLt _ _ => zz; clear zz)
    repeat (with_reducible rename @LT.lt Nat _ _ _ => zz; clear zz)
    repeat (with_reducible rename @LT.lt Addr _ _ _ => zz; clear zz)
    repeat (with_reducible rename @LE.le Nat _ _ _ => zz; clear zz)
    repeat (with_reducible rename LCg.Off1 _ _ => zz; clear zz)
    repeat (with_reducible rename LCg.Off3 _ _ _ _ => zz; clear zz)
    obtain ⟨q44, q37, hX9, FS, NS⟩ := kp
    with_unfolding_all refine' For_invVF FS ?k1q7 ?k2q7 ?_
    case k1q7 => exact rfl
    case k2q7 => exact rfl
    (repeat' ((fail_if_success (first | (with_reducible show wpAny _ _ (call (Value.ref _) _) _ _ _) | (with_reducible show wpAny _ _ (pyIter _) _ _ _) | (with_reducible show UnrPost _ _ _ _ _ _ _ _ _) | (with_reducible show wpAny _ _ (exec (Stmt.Assign _ (PySem.Expr.ListComp _ _ _ _) _) _) _ _ _) | (with_reducible show wpAny _ _ (eval (PySem.Expr.ListComp _ _ _ _) _) _ _ _) | (with_reducible show wpAny _ _ (call (Value.type "zip") _) _ _ _) | (with_reducible show MEnd _ _ _ _ _ _ _ _ _ _ _ _ _) | (with_reducible show wpAny _ _ (exec (Stmt.For _ _ _ _ _) _) _ _ _) | (with_reducible show wpAny _ _ (exec (Stmt.While _ _ _ _) _) _ _ _) | (with_reducible show wpAny _ _ (eval (PySem.Expr.IfExp _ _ _ _) _) _ _ _) | (with_reducible show wpAny _ _ (compareOp .NotEq (Value.ref _) (Value.ref _)) _ _ _))); first | (k_unfold; (try dsimp only)) | (k_end; wrow_close) | walk1 | (dsimp only; walk1) | (leave1; walk_say "STEP leave1"; try dsimp only)))
    (with_reducible rename News _ _ _ _ => lN)
    refine' iter_rangeUnr (n := 5) (a₀ := 0) (b₀ := (5 : Int)) rfl ?rg1q7 (small_one (by decide) (by decide) (by decide) (by decide)) rfl ?Fcq7 lN ?restcq7
    case rg1q7 => assumption
    case Fcq7 => k_asm
    case restcq7 =>
      intro I hI
      refine RangeIndQ (LfP I (s1.heap.objs.size + 1) (s1.heap.objs.size + 1 + 1) oN oB Tab30 Tab37 X ways other ta tb) ?turncq7 ?donecq7 _ _ _ _ ?startcq7
      case startcq7 => exact fun _ kk => kk _ _ [] _ _ rfl (.inl rfl) (.inl rfl) (List.forall_mem_nil _) rfl rfl (by rw [Nat.pow_zero, Nat.div_one]; rfl) rfl
      case turncq7 =>
        intro k i m nw hP
        apply hP
        clear hP
        intro o30 o37 ext tl tw hki hT30 hT37 hoff y1 y2 y3 y4 t it h9 tk9 Q9 E9 hU F9 N9
        rw [mx4 y1 y2 y3 y4] at F9
        have hI44 : @LT.lt Nat _ 44 I := hI _ (.tail _ (.head _))
        have hIB2 : @LT.lt Nat _ (s1.heap.objs.size + 1 + 1) I := hI _ (.tail _ (.tail _ (.head _)))
        (repeat' ((fail_if_success (first | (with_reducible show wpAny _ _ (call (Value.ref _) _) _ _ _) | (with_reducible show wpAny _ _ (pyIter _) _ _ _) | (with_reducible show UnrPost _ _ _ _ _ _ _ _ _) | (with_reducible show wpAny _ _ (exec (Stmt.Assign _ (PySem.Expr.ListComp _ _ _ _) _) _) _ _ _) | (with_reducible show wpAny _ _ (eval (PySem.Expr.ListComp _ _ _ _) _) _ _ _) | (with_reducible show wpAny _ _ (call (Value.type "zip") _) _ _ _) | (with_reducible show MEnd _ _ _ _ _ _ _ _ _ _ _ _ _) | (with_reducible show wpAny _ _ (exec (Stmt.For _ _ _ _ _) _) _ _ _) | (with_reducible show wpAny _ _ (exec (Stmt.While _ _ _ _) _) _ _ _) | (with_reducible show wpAny _ _ (eval (PySem.Expr.IfExp _ _ _ _) _) _ _ _) | (with_reducible show wpAny _ _ (compareOp .NotEq (Value.ref _) (Value.ref _)) _ _ _))); first | (k_unfold; (try dsimp only)) | (k_end; wrow_close) | ((with_reducible show wpAny _ _ (callWith _ (Value.ref _) _ _ _) _ _ _); (k_here; (k_dflt (refine' callWith_K ?k1q7 ?k2q7 ?_; (case k1q7 => k_asm); (case k2q7 => k_is); k_whole)))) | walk1 | (dsimp only; walk1) | (leave1; walk_say "STEP leave1"; try dsimp only)))
        refine' (idm0W (w := w) (T0 := ext) (news := (I, it) :: (s1.heap.objs.size + 1 + 1, oB) :: (s1.heap.objs.size + 1, oN) :: ext) (X / 3 ^ i) 3 (div_60 hX9) (by decide) (by decide) _ 3 rfl rfl _ _ (FMC.all ⟨Nat.ne_of_gt (Nat.lt_trans (by decide : 37 < 44) hI44), FMC.all ⟨Nat.ne_of_gt (Nat.lt_succ_of_lt (Nat.lt_succ_of_lt q37)), FMC.all ⟨Nat.ne_of_gt (Nat.lt_succ_of_lt q37), fun q hq => Nat.ne_of_gt (Nat.lt_trans (by decide : 37 < 44) (hoff q hq).1)⟩⟩⟩) (FMC.all ⟨Nat.ne_of_gt hI44, FMC.all ⟨Nat.ne_of_gt (Nat.lt_succ_of_lt (Nat.lt_succ_of_lt q44)), FMC.all ⟨Nat.ne_of_gt (Nat.lt_succ_of_lt q44), fun q hq => Nat.ne_of_gt (hoff q hq).1⟩⟩⟩) _ _ hT30 hT37 (fun p hp => .tail _ (.tail _ (.tail _ hp)))).use (K := K02) ?B3q7 ?F3q7 ?X3q7 ?N3q7 ?T3q7 ?eH3q7 rfl ?hd3q7 ?hu3q7 ?_
        case N3q7 => exact newsSub (by k_asm) (FMC.all ⟨.tail _ (.head _), FMC.all ⟨.tail _ (.tail _ (.head _)), FMC.all ⟨.head _, fun p hp => .tail _ (.tail _ (.tail _ hp))⟩⟩⟩)
        case eH3q7 => exact ⟨by assumption, by assumption⟩
        case B3q7 => k_asm
        case F3q7 => k_asm
        case X3q7 => k_asm
        case T3q7 => k_asm
        case hd3q7 => ktr_room
        case hu3q7 => ktr_units
        intro D u1 u2 o30' o37' ext' hT30' hT37' hltD hD44 hext' h2 tk2 F2 N2
        rw [div_3, mod_3] at N2
        k_lt hltD
        (repeat' ((fail_if_success (first | (with_reducible show wpAny _ _ (call (Value.ref _) _) _ _ _) | (with_reducible show wpAny _ _ (pyIter _) _ _ _) | (with_reducible show UnrPost _ _ _ _ _ _ _ _ _) | (with_reducible show wpAny _ _ (exec (Stmt.Assign _ (PySem.Expr.ListComp _ _ _ _) _) _) _ _ _) | (with_reducible show wpAny _ _ (eval (PySem.Expr.ListComp _ _ _ _) _) _ _ _) | (with_reducible show wpAny _ _ (call (Value.type "zip") _) _ _ _) | (with_reducible show MEnd _ _ _ _ _ _ _ _ _ _ _ _ _) | (with_reducible show wpAny _ _ (exec (Stmt.For _ _ _ _ _) _) _ _ _) | (with_reducible show wpAny _ _ (exec (Stmt.While _ _ _ _) _) _ _ _) | (with_reducible show wpAny _ _ (eval (PySem.Expr.IfExp _ _ _ _) _) _ _ _) | (with_reducible show wpAny _ _ (compareOp .NotEq (Value.ref _) (Value.ref _)) _ _ _))); first | (k_unfold; (try dsimp only)) | (k_end; wrow_close) | walk1 | (dsimp only; walk1) | (leave1; walk_say "STEP leave1"; try dsimp only)))
        refine my_rgbAt dg_lt ?_
        intro tq tk8
        (repeat' ((fail_if_success (first | (with_reducible show wpAny _ _ (call (Value.ref _) _) _ _ _) | (with_reducible show wpAny _ _ (pyIter _) _ _ _) | (with_reducible show UnrPost _ _ _ _ _ _ _ _ _) | (with_reducible show wpAny _ _ (exec (Stmt.Assign _ (PySem.Expr.ListComp _ _ _ _) _) _) _ _ _) | (with_reducible show wpAny _ _ (eval (PySem.Expr.ListComp _ _ _ _) _) _ _ _) | (with_reducible show wpAny _ _ (call (Value.type "zip") _) _ _ _) | (with_reducible show MEnd _ _ _ _ _ _ _ _ _ _ _ _ _) | (with_reducible show wpAny _ _ (exec (Stmt.For _ _ _ _ _) _) _ _ _) | (with_reducible show wpAny _ _ (exec (Stmt.While _ _ _ _) _) _ _ _) | (with_reducible show wpAny _ _ (eval (PySem.Expr.IfExp _ _ _ _) _) _ _ _) | (with_reducible show wpAny _ _ (compareOp .NotEq (Value.ref _) (Value.ref _)) _ _ _))); first | (k_unfold; (try dsimp only)) | (k_end; wrow_close) | walk1 | (dsimp only; walk1) | (leave1; walk_say "STEP leave1"; try dsimp only)))
        refine my_iaddW (by omega) ?_
        intro tw9 tk9
        (repeat' ((fail_if_success (first | (with_reducible show wpAny _ _ (call (Value.ref _) _) _ _ _) | (with_reducible show wpAny _ _ (pyIter _) _ _ _) | (with_reducible show UnrPost _ _ _ _ _ _ _ _ _) | (with_reducible show wpAny _ _ (exec (Stmt.Assign _ (PySem.Expr.ListComp _ _ _ _) _) _) _ _ _) | (with_reducible show wpAny _ _ (eval (PySem.Expr.ListComp _ _ _ _) _) _ _ _) | (with_reducible show wpAny _ _ (call (Value.type "zip") _) _ _ _) | (with_reducible show MEnd _ _ _ _ _ _ _ _ _ _ _ _ _) | (with_reducible show wpAny _ _ (exec (Stmt.For _ _ _ _ _) _) _ _ _) | (with_reducible show wpAny _ _ (exec (Stmt.While _ _ _ _) _) _ _ _) | (with_reducible show wpAny _ _ (eval (PySem.Expr.IfExp _ _ _ _) _) _ _ _) | (with_reducible show wpAny _ _ (compareOp .NotEq (Value.ref _) (Value.ref _)) _ _ _))); first | (k_unfold; (try dsimp only)) | (k_end; wrow_close) | walk1 | (dsimp only; walk1) | (leave1; walk_say "STEP leave1"; try dsimp only)))
        exact hU (by k_asm) (by k_asm) ((37, o30') :: (44, o37') :: (s1.heap.objs.size + 1 + 1, oB) :: (s1.heap.objs.size + 1, oN) :: (ext' ++ ext)) lfSub (FMC.all ⟨Nat.ne_of_lt (Nat.lt_trans (by decide : 37 < 44) hI44), FMC.all ⟨Nat.ne_of_lt hI44, FMC.all ⟨Nat.ne_of_lt hIB2, FMC.all ⟨Nat.ne_of_lt (Nat.lt_of_succ_lt hIB2), fun q hq => (List.mem_append.mp hq).elim (fun h => Nat.ne_of_gt ((hext' q h).1 _ (.head _))) (fun h => (hoff q h).2.2.2)⟩⟩⟩⟩)
          (fun _ kk => kk o30' o37' (ext' ++ ext) _ _ ((Nat.succ_add_eq_add_succ k i).symm.trans hki) hT30' hT37' (fun q hq => (List.mem_append.mp hq).elim (fun h => ⟨(hext' q h).2, Nat.ne_of_gt ((hext' q h).1 _ (.tail _ (.tail _ (.head _)))), Nat.ne_of_gt ((hext' q h).1 _ (.tail _ (.head _))), Nat.ne_of_gt ((hext' q h).1 _ (.head _))⟩) (hoff q)) rfl rfl rfl rfl)
      case donecq7 =>
        intro i m nw hP
        apply hP
        clear hP
        intro o30 o37 ext tl tw hki hT30 hT37 hoff y1 y2 y3 y4 h9 tk9 F9 N9
        rw [mx4 y1 y2 y3 y4] at F9
        have hi5 : i = 5 := (Nat.zero_add i).symm.trans hki
        subst hi5
        rw [wdN_5] at F9
        dsimp only
        have kp := And.intro q44 (And.intro q37 (And.intro hX9 (And.intro F9 (N9))))
        repeat (with_reducible rename News _ _ _ _ => zz; clear zz)
        repeat (with_reducible rename Fr _ _ _ _ => zz; clear zz)
        repeat (with_reducible rename AllLt _ _ => zz; clear zz)
        repeat (with_reducible rename @LT.lt Nat _ _ _ => zz; clear zz)
        repeat (with_reducible rename @LT.lt Addr _ _ _ => zz; clear zz)
        repeat (with_reducible rename @LE.le Nat _ _ _ => zz; clear zz)
        repeat (with_reducible rename LCg.Off1 _ _ => zz; clear zz)
        repeat (with_reducible rename LCg.Off3 _ _ _ _ => zz; clear zz)
        obtain ⟨q44, q37, hX9, F9, N9⟩ := kp
        walk1
        (k_dflt (refine LCg.Assign_ListComp_U (F₀ := by k_asm) (by rfl) (by with_unfolding_all rfl) (by with_unfolding_all rfl) (by decide) (by rfl) (by decide) (by rfl) (by rfl) (by rfl) ?_))
        (repeat' ((fail_if_success (first | (with_reducible show wpAny _ _ (call (Value.ref _) _) _ _ _) | (with_reducible show wpAny _ _ (pyIter _) _ _ _) | (with_reducible show UnrPost _ _ _ _ _ _ _ _ _) | (with_reducible show wpAny _ _ (exec (Stmt.Assign _ (PySem.Expr.ListComp _ _ _ _) _) _) _ _ _) | (with_reducible show wpAny _ _ (eval (PySem.Expr.ListComp _ _ _ _) _) _ _ _) | (with_reducible show wpAny _ _ (call (Value.type "zip") _) _ _ _) | (with_reducible show MEnd _ _ _ _ _ _ _ _ _ _ _ _ _) | (with_reducible show wpAny _ _ (exec (Stmt.For _ _ _ _ _) _) _ _ _) | (with_reducible show wpAny _ _ (exec (Stmt.While _ _ _ _) _) _ _ _) | (with_reducible show wpAny _ _ (eval (PySem.Expr.IfExp _ _ _ _) _) _ _ _) | (with_reducible show LCg.CompSrc _ _ _ _ _ _ _ _ _ _ _ _ _ _) | (with_reducible show LCg.CompEnd _ _ _ _ _ _ _ _ _ _ _ _ _ _) | (with_reducible show wpAny _ _ (compareOp .NotEq (Value.ref _) (Value.ref _)) _ _ _))); first | (k_unfold; (try dsimp only)) | (k_end; wrow_close) | walk1 | (dsimp only; walk1) | (leave1; walk_say "STEP leave1"; try dsimp only)))
        refine LCg.CompSrc.range (by rfl) (by k_asm) (by k_asm) (by assumption) (by decide) rfl (Nat.le_of_ble_eq_true rfl) ?_
        intro g
        refine comp_rng (fun i y => ∃ t, y = .int ((dg X i : Nat) : Int) t) ?turnRq7 ?finRq7
        case turnRq7 =>
          intro i t I oI C oC D m₂ ys h tk E' hi hC hx F N off ne
          (repeat' ((fail_if_success (first | (with_reducible show wpAny _ _ (call (Value.ref _) _) _ _ _) | (with_reducible show wpAny _ _ (pyIter _) _ _ _) | (with_reducible show UnrPost _ _ _ _ _ _ _ _ _) | (with_reducible show wpAny _ _ (exec (Stmt.Assign _ (PySem.Expr.ListComp _ _ _ _) _) _) _ _ _) | (with_reducible show wpAny _ _ (eval (PySem.Expr.ListComp _ _ _ _) _) _ _ _) | (with_reducible show wpAny _ _ (call (Value.type "zip") _) _ _ _) | (with_reducible show MEnd _ _ _ _ _ _ _ _ _ _ _ _ _) | (with_reducible show wpAny _ _ (exec (Stmt.For _ _ _ _ _) _) _ _ _) | (with_reducible show wpAny _ _ (exec (Stmt.While _ _ _ _) _) _ _ _) | (with_reducible show wpAny _ _ (eval (PySem.Expr.IfExp _ _ _ _) _) _ _ _) | (with_reducible show LCg.CompSrc _ _ _ _ _ _ _ _ _ _ _ _ _ _) | (with_reducible show LCg.CompEnd _ _ _ _ _ _ _ _ _ _ _ _ _ _) | (with_reducible show wpAny _ _ (compareOp .NotEq (Value.ref _) (Value.ref _)) _ _ _))); first | (k_unfold; (try dsimp only)) | (k_end; wrow_close) | ((with_reducible show wpAny _ _ (eval (PySem.Expr.Name _ _) (compEnvC _ _ _ _)) _ _ _); k_dflt (refine LCgL.ld_own (by k_asm) (by k_mem) (by assumption) (by assumption) ?_)) | walk1 | (dsimp only; walk1) | (leave1; walk_say "STEP leave1"; try dsimp only)))
          refine my_fdp hi ?_
          intro tf
          (repeat' ((fail_if_success (first | (with_reducible show wpAny _ _ (call (Value.ref _) _) _ _ _) | (with_reducible show wpAny _ _ (pyIter _) _ _ _) | (with_reducible show UnrPost _ _ _ _ _ _ _ _ _) | (with_reducible show wpAny _ _ (exec (Stmt.Assign _ (PySem.Expr.ListComp _ _ _ _) _) _) _ _ _) | (with_reducible show wpAny _ _ (eval (PySem.Expr.ListComp _ _ _ _) _) _ _ _) | (with_reducible show wpAny _ _ (call (Value.type "zip") _) _ _ _) | (with_reducible show MEnd _ _ _ _ _ _ _ _ _ _ _ _ _) | (with_reducible show wpAny _ _ (exec (Stmt.For _ _ _ _ _) _) _ _ _) | (with_reducible show wpAny _ _ (exec (Stmt.While _ _ _ _) _) _ _ _) | (with_reducible show wpAny _ _ (eval (PySem.Expr.IfExp _ _ _ _) _) _ _ _) | (with_reducible show LCg.CompSrc _ _ _ _ _ _ _ _ _ _ _ _ _ _) | (with_reducible show LCg.CompEnd _ _ _ _ _ _ _ _ _ _ _ _ _ _) | (with_reducible show wpAny _ _ (compareOp .NotEq (Value.ref _) (Value.ref _)) _ _ _))); first | (k_unfold; (try dsimp only)) | (k_end; wrow_close) | walk1 | (dsimp only; walk1) | (leave1; walk_say "STEP leave1"; try dsimp only)))
          rw [mod_3]
          exact LCg.CompEnd.intro F N _ (fun p hp => hp) off True.intro ⟨rfl, _, rfl⟩
        case finRq7 =>
          intro ys hyl hy
          intro D8 h8 tk8 F8 N8 off8
          have hfig : IntsAre ys (castL (figL X)) := figs_ints hyl hy
          dsimp only
          (repeat' ((fail_if_success (first | (with_reducible show wpAny _ _ (call (Value.ref _) _) _ _ _) | (with_reducible show wpAny _ _ (pyIter _) _ _ _) | (with_reducible show UnrPost _ _ _ _ _ _ _ _ _) | (with_reducible show wpAny _ _ (exec (Stmt.Assign _ (PySem.Expr.ListComp _ _ _ _) _) _) _ _ _) | (with_reducible show wpAny _ _ (eval (PySem.Expr.ListComp _ _ _ _) _) _ _ _) | (with_reducible show wpAny _ _ (call (Value.type "zip") _) _ _ _) | (with_reducible show MEnd _ _ _ _ _ _ _ _ _ _ _ _ _) | (with_reducible show wpAny _ _ (exec (Stmt.For _ _ _ _ _) _) _ _ _) | (with_reducible show wpAny _ _ (exec (Stmt.While _ _ _ _) _) _ _ _) | (with_reducible show wpAny _ _ (eval (PySem.Expr.IfExp _ _ _ _) _) _ _ _) | (with_reducible show wpAny _ _ (compareOp .NotEq (Value.ref _) (Value.ref _)) _ _ _))); first | (k_unfold; (try dsimp only)) | (k_end; wrow_close) | ((with_reducible show wpAny _ _ (callWith _ (Value.ref _) _ _ _) _ _ _); (k_here; (k_dflt (refine' callWith_K ?k1q7 ?k2q7 ?_; (case k1q7 => k_asm); (case k2q7 => k_is); k_whole)))) | walk1 | (dsimp only; walk1) | (leave1; walk_say "STEP leave1"; try dsimp only)))
          refine' (nested (w := w) (PySem.Str.ofString "rgbrg") rgbrg_len ways _ _).use (K := K02) ?B1q7 ?F1q7 ?X1q7 ?N1q7 ?T1q7 ?eH1q7 rfl ?hd1q7 ?hu1q7 ?_
          case N1q7 => k_asm
          case eH1q7 => exact ⟨by assumption, by assumption⟩
          case B1q7 => k_asm
          case F1q7 => k_asm
          case X1q7 => k_asm
          case T1q7 => k_asm
          case hd1q7 => ktr_room
          case hu1q7 => ktr_units
          intro tn1 h1 tk1 F1 N1
          (repeat' ((fail_if_success (first | (with_reducible show wpAny _ _ (call (Value.ref _) _) _ _ _) | (with_reducible show wpAny _ _ (pyIter _) _ _ _) | (with_reducible show UnrPost _ _ _ _ _ _ _ _ _) | (with_reducible show wpAny _ _ (exec (Stmt.Assign _ (PySem.Expr.ListComp _ _ _ _) _) _) _ _ _) | (with_reducible show wpAny _ _ (eval (PySem.Expr.ListComp _ _ _ _) _) _ _ _) | (with_reducible show wpAny _ _ (call (Value.type "zip") _) _ _ _) | (with_reducible show MEnd _ _ _ _ _ _ _ _ _ _ _ _ _) | (with_reducible show wpAny _ _ (exec (Stmt.For _ _ _ _ _) _) _ _ _) | (with_reducible show wpAny _ _ (exec (Stmt.While _ _ _ _) _) _ _ _) | (with_reducible show wpAny _ _ (eval (PySem.Expr.IfExp _ _ _ _) _) _ _ _) | (with_reducible show wpAny _ _ (compareOp .NotEq (Value.ref _) (Value.ref _)) _ _ _))); first | (k_unfold; (try dsimp only)) | (k_end; wrow_close) | walk1 | (dsimp only; walk1) | (leave1; walk_say "STEP leave1"; try dsimp only)))
          refine' (chords (w := w) (nestF (PySem.Str.ofString "rgbrg") ways) (c50 (chords_shp ways).2) (shp ways) (chords_shp ways).1 _).use (K := K02) ?B2q7 ?F2q7 ?X2q7 ?N2q7 ?T2q7 ?eH2q7 rfl ?hd2q7 ?hu2q7 ?_
          case N2q7 => k_asm
          case eH2q7 => exact ⟨by assumption, by assumption⟩
          case B2q7 => k_asm
          case F2q7 => k_asm
          case X2q7 => k_asm
          case T2q7 => k_asm
          case hd2q7 => ktr_room
          case hu2q7 => ktr_units
          intro Dc ts1 n1 ext1 hts1 hin1 hex1 hlt1 h2 tk2 F2 N2
          (repeat' ((fail_if_success (first | (with_reducible show wpAny _ _ (call (Value.ref _) _) _ _ _) | (with_reducible show wpAny _ _ (pyIter _) _ _ _) | (with_reducible show UnrPost _ _ _ _ _ _ _ _ _) | (with_reducible show wpAny _ _ (exec (Stmt.Assign _ (PySem.Expr.ListComp _ _ _ _) _) _) _ _ _) | (with_reducible show wpAny _ _ (eval (PySem.Expr.ListComp _ _ _ _) _) _ _ _) | (with_reducible show wpAny _ _ (call (Value.type "zip") _) _ _ _) | (with_reducible show MEnd _ _ _ _ _ _ _ _ _ _ _ _ _) | (with_reducible show wpAny _ _ (exec (Stmt.For _ _ _ _ _) _) _ _ _) | (with_reducible show wpAny _ _ (exec (Stmt.While _ _ _ _) _) _ _ _) | (with_reducible show wpAny _ _ (eval (PySem.Expr.IfExp _ _ _ _) _) _ _ _) | (with_reducible show wpAny _ _ (compareOp .NotEq (Value.ref _) (Value.ref _)) _ _ _))); first | (k_unfold; (try dsimp only)) | (k_end; wrow_close) | ((with_reducible show wpAny _ _ (callWith _ (Value.ref _) _ _ _) _ _ _); (k_here; (k_dflt (refine' callWith_K ?k1q7 ?k2q7 ?_; (case k1q7 => k_asm); (case k2q7 => k_is); k_whole)))) | walk1 | (dsimp only; walk1) | (leave1; walk_say "STEP leave1"; try dsimp only)))
          refine' (nested (w := w) (PySem.Str.ofString "rgbrg") rgbrg_len other _ _).use (K := K02) ?B3q7 ?F3q7 ?X3q7 ?N3q7 ?T3q7 ?eH3q7 rfl ?hd3q7 ?hu3q7 ?_
          case N3q7 => k_asm
          case eH3q7 => exact ⟨by assumption, by assumption⟩
          case B3q7 => k_asm
          case F3q7 => k_asm
          case X3q7 => k_asm
          case T3q7 => k_asm
          case hd3q7 => ktr_room
          case hu3q7 => ktr_units
          intro tn3 h3 tk3 F3 N3
          (repeat' ((fail_if_success (first | (with_reducible show wpAny _ _ (call (Value.ref _) _) _ _ _) | (with_reducible show wpAny _ _ (pyIter _) _ _ _) | (with_reducible show UnrPost _ _ _ _ _ _ _ _ _) | (with_reducible show wpAny _ _ (exec (Stmt.Assign _ (PySem.Expr.ListComp _ _ _ _) _) _) _ _ _) | (with_reducible show wpAny _ _ (eval (PySem.Expr.ListComp _ _ _ _) _) _ _ _) | (with_reducible show wpAny _ _ (call (Value.type "zip") _) _ _ _) | (with_reducible show MEnd _ _ _ _ _ _ _ _ _ _ _ _ _) | (with_reducible show wpAny _ _ (exec (Stmt.For _ _ _ _ _) _) _ _ _) | (with_reducible show wpAny _ _ (exec (Stmt.While _ _ _ _) _) _ _ _) | (with_reducible show wpAny _ _ (eval (PySem.Expr.IfExp _ _ _ _) _) _ _ _) | (with_reducible show wpAny _ _ (compareOp .NotEq (Value.ref _) (Value.ref _)) _ _ _))); first | (k_unfold; (try dsimp only)) | (k_end; wrow_close) | walk1 | (dsimp only; walk1) | (leave1; walk_say "STEP leave1"; try dsimp only)))
          refine' (chords (w := w) (nestF (PySem.Str.ofString "rgbrg") other) (c50 (chords_shp other).2) (shp other) (chords_shp other).1 _).use (K := K02) ?B4q7 ?F4q7 ?X4q7 ?N4q7 ?T4q7 ?eH4q7 rfl ?hd4q7 ?hu4q7 ?_
          case N4q7 => k_asm
          case eH4q7 => exact ⟨by assumption, by assumption⟩
          case B4q7 => k_asm
          case F4q7 => k_asm
          case X4q7 => k_asm
          case T4q7 => k_asm
          case hd4q7 => ktr_room
          case hu4q7 => ktr_units
          intro Dx ts2 n2 ext2 hts2 hin2 hex2 hlt2 h4 tk4 F4 N4
          have hB2D : @LT.lt Nat _ (s1.heap.objs.size + 1 + 1) Dc := hlt1 _ (.tail _ (.tail _ (.tail _ (.head _))))
          have hB2X : @LT.lt Nat _ (s1.heap.objs.size + 1 + 1) Dx := hlt2 _ (.tail _ (List.mem_append_right _ (.tail _ (.tail _ (.tail _ (.head _))))))
          have hB2 : ∀ q ∈ (D8, LCg.lst ys) :: (Dc, W.listOf (ts1.map fun e => Value.ref e.1).toArray n1) :: (Dx, W.listOf (ts2.map fun e => Value.ref e.1).toArray n2) :: (ext2 ++ (ext1 ++ ext)), q.1 ≠ s1.heap.objs.size + 1 + 1 :=
            FMC.all ⟨Ne.symm (off1_mem off8 (s1.heap.objs.size + 1 + 1, oB) (.tail _ (.tail _ (.head _)))), FMC.all ⟨Nat.ne_of_gt hB2D, FMC.all ⟨Nat.ne_of_gt hB2X, fun q hq => (List.mem_append.mp hq).elim (fun h => Nat.ne_of_gt ((hex2 q h).2 _ (.tail _ (List.mem_append_right _ (.tail _ (.tail _ (.tail _ (.head _)))))))) (fun hq => (List.mem_append.mp hq).elim (fun h => Nat.ne_of_gt ((hex1 q h).2 _ (.tail _ (.tail _ (.tail _ (.head _)))))) (fun h => (hoff q h).2.2.1))⟩⟩⟩
          replace N4 := newsSub N4 chSub
          have hB28 := hB2 _ (.head _)
          have hB2t : ∀ q ∈ ext2 ++ (ext1 ++ ext), q.1 ≠ s1.heap.objs.size + 1 + 1 := fun q hq => hB2 q (.tail _ (.tail _ (.tail _ hq)))
          (repeat' ((fail_if_success (first | (with_reducible show wpAny _ _ (call (Value.ref _) _) _ _ _) | (with_reducible show wpAny _ _ (pyIter _) _ _ _) | (with_reducible show UnrPost _ _ _ _ _ _ _ _ _) | (with_reducible show wpAny _ _ (exec (Stmt.Assign _ (PySem.Expr.ListComp _ _ _ _) _) _) _ _ _) | (with_reducible show wpAny _ _ (eval (PySem.Expr.ListComp _ _ _ _) _) _ _ _) | (with_reducible show wpAny _ _ (call (Value.type "zip") _) _ _ _) | (with_reducible show MEnd _ _ _ _ _ _ _ _ _ _ _ _ _) | (with_reducible show wpAny _ _ (exec (Stmt.For _ _ _ _ _) _) _ _ _) | (with_reducible show wpAny _ _ (exec (Stmt.While _ _ _ _) _) _ _ _) | (with_reducible show wpAny _ _ (eval (PySem.Expr.IfExp _ _ _ _) _) _ _ _) | (with_reducible show wpAny _ _ (compareOp .NotEq (Value.ref _) (Value.ref _)) _ _ _))); first | (k_unfold; (try dsimp only)) | (k_end; wrow_close) | walk1 | (dsimp only; walk1) | (leave1; walk_say "STEP leave1"; try dsimp only)))
          rename_i Dl hL1 r1 r2 r3 r4 r5 r6 r7 lL hL2 oC FC NC dC
          have hin1' : ∀ e ∈ ts1, (e.1, tup [e.2.1, e.2.2]) ∈ ext2 ++ (ext1 ++ ext) := fun e he => List.mem_append_right _ (List.mem_append_left _ (hin1 e he))
          have hin2' : ∀ e ∈ ts2, (e.1, tup [e.2.1, e.2.2]) ∈ ext2 ++ (ext1 ++ ext) := fun e he => List.mem_append_left _ (hin2 e he)
          have hsE : ∀ q ∈ ext, q ∈ ext2 ++ (ext1 ++ ext) := fun q hq => List.mem_append_right _ (List.mem_append_right _ hq)
          have hoff' : ∀ q ∈ ext, @LT.lt Nat _ 44 q.1 := fun q hq => (hoff q hq).1
          have hDlt : ∀ q ∈ ext2 ++ (ext1 ++ ext), q.1 ≠ Dl := fun q hq => Nat.ne_of_lt (allLt_mem lL q hq)
          clear lL hin1 hin2 hex1 hex2 hlt1 hlt2 hB2 hoff off8
          generalize ext2 ++ (ext1 ++ ext) = E3 at hin1' hin2' hsE hB2t hDlt NC
          refine frGen6 FC (a := PySem.Str.ofString "ways") (b := PySem.Str.ofString "other") (c := PySem.Str.ofString "word") (d := PySem.Str.ofString "figures") (e := PySem.Str.ofString "chords") (f := PySem.Str.ofString "across") (by with_unfolding_all rfl) (by with_unfolding_all rfl) (by with_unfolding_all rfl) (by with_unfolding_all rfl) (by with_unfolding_all rfl) (by with_unfolding_all rfl) ?_
          clear FC
          intro m1 FC
          have kp := And.intro q44 (And.intro q37 (And.intro hX9 (And.intro r1 (And.intro r2 (And.intro r3 (And.intro r4 (And.intro r5 (And.intro r6 (And.intro r7 (And.intro hB2D (And.intro hB2X (And.intro FC (NC)))))))))))))
          repeat (with_reducible rename News _ _ _ _ => zz; clear zz)
          repeat (with_reducible rename Fr _ _ _ _ => zz; clear zz)
          repeat (with_reducible rename AllLt _ _ => zz; clear zz)
          repeat (with_reducible rename @LT.lt Nat _ _ _ => zz; clear zz)
          repeat (with_reducible rename @LT.lt Addr _ _ _ => zz; clear zz)
          repeat (with_reducible rename @LE.le Nat _ _ _ => zz; clear zz)
          repeat (with_reducible rename LCg.Off1 _ _ => zz; clear zz)
          repeat (with_reducible rename LCg.Off3 _ _ _ _ => zz; clear zz)
          obtain ⟨q44, q37, hX9, r1, r2, r3, r4, r5, r6, r7, hB2D, hB2X, FC, NC⟩ := kp
          with_unfolding_all refine' For_invVF FC ?k1cq7 ?k2cq7 ?_
          case k1cq7 => exact rfl
          case k2cq7 => exact rfl
          (repeat' ((fail_if_success (first | (with_reducible show wpAny _ _ (call (Value.ref _) _) _ _ _) | (with_reducible show wpAny _ _ (pyIter _) _ _ _) | (with_reducible show UnrPost _ _ _ _ _ _ _ _ _) | (with_reducible show wpAny _ _ (exec (Stmt.Assign _ (PySem.Expr.ListComp _ _ _ _) _) _) _ _ _) | (with_reducible show wpAny _ _ (eval (PySem.Expr.ListComp _ _ _ _) _) _ _ _) | (with_reducible show wpAny _ _ (call (Value.type "zip") _) _ _ _) | (with_reducible show MEnd _ _ _ _ _ _ _ _ _ _ _ _ _) | (with_reducible show wpAny _ _ (exec (Stmt.For _ _ _ _ _) _) _ _ _) | (with_reducible show wpAny _ _ (exec (Stmt.While _ _ _ _) _) _ _ _) | (with_reducible show wpAny _ _ (eval (PySem.Expr.IfExp _ _ _ _) _) _ _ _) | (with_reducible show wpAny _ _ (compareOp .NotEq (Value.ref _) (Value.ref _)) _ _ _))); first | (k_unfold; (try dsimp only)) | (k_end; wrow_close) | walk1 | (dsimp only; walk1) | (leave1; walk_say "STEP leave1"; try dsimp only)))
          refine' iter_listUnr (vs := ys) rfl ?FbCq7 NC (.tail _ (.tail _ (.tail _ (.tail _ (.tail _ (.head _)))))) rfl rfl ?restCq7
          case FbCq7 => k_asm
          case restCq7 =>
            intro I hI
            have hIl : @LT.lt Nat _ Dl I := hI _ (.head _)
            refine ListIndQ (CfP Dl (corL (figL X) 0) ways other ta tb (wordC (corL (figL X) 0)) D8 Dc Dx ((37, o30) :: (44, o37) :: (s1.heap.objs.size + 1 + 1, oC) :: (s1.heap.objs.size + 1, oN) :: (D8, LCg.lst ys) :: (Dc, W.listOf (ts1.map fun e => Value.ref e.1).toArray n1) :: (Dx, W.listOf (ts2.map fun e => Value.ref e.1).toArray n2) :: E3)) ?turnCq7 ?doneCq7 _ _ _ ?startCq7
            case startCq7 => exact fun _ kk => kk [] (figL X) 0 [Value.int 0 _] 0 _ hfig rfl (by decide) figL_lt (.cons _ _ .nil) (Nat.le_of_ble_eq_true rfl) rfl rfl rfl rfl rfl rfl
            case turnCq7 =>
              intro v us m nw hP
              apply hP
              clear hP
              intro pre fs a cv kc tw hus hR ha hfs hcv hlen y1 y2 y3 y4 y5 y6 it h9 tk9 Q9 E9 hU F9 N9
              cases fs with
              | nil => cases hus
              | cons f fs =>
                obtain ⟨tf, hv, hus2⟩ := ints_consN hus
                subst hv
                obtain ⟨xe, xl⟩ := xr_eq a ha f (hfs f (.head _))
                obtain ⟨⟨ta9, hlast⟩, hcp, hcl⟩ := last_sn hcv
                have hcz : cv.toArray.size ≤ sizeLine := by rw [List.size_toArray, hcl, PySem.sizeLine_eq]; exact Nat.le_trans (Nat.add_le_add_right (Nat.le_trans (Nat.le_add_right _ _) hlen) 1) (by decide)
                have i1 : @LT.lt Nat _ (s1.heap.objs.size + 1 + 1) I := hI _ (.tail _ (.tail _ (.tail _ (.head _))))
                rw [mx6 y1 y2 y3 y4 y5 y6] at F9
                (repeat' ((fail_if_success (first | (with_reducible show wpAny _ _ (call (Value.ref _) _) _ _ _) | (with_reducible show wpAny _ _ (pyIter _) _ _ _) | (with_reducible show UnrPost _ _ _ _ _ _ _ _ _) | (with_reducible show wpAny _ _ (exec (Stmt.Assign _ (PySem.Expr.ListComp _ _ _ _) _) _) _ _ _) | (with_reducible show wpAny _ _ (eval (PySem.Expr.ListComp _ _ _ _) _) _ _ _) | (with_reducible show wpAny _ _ (call (Value.type "zip") _) _ _ _) | (with_reducible show MEnd _ _ _ _ _ _ _ _ _ _ _ _ _) | (with_reducible show wpAny _ _ (exec (Stmt.For _ _ _ _ _) _) _ _ _) | (with_reducible show wpAny _ _ (exec (Stmt.While _ _ _ _) _) _ _ _) | (with_reducible show wpAny _ _ (eval (PySem.Expr.IfExp _ _ _ _) _) _ _ _) | (with_reducible show wpAny _ _ (compareOp .NotEq (Value.ref _) (Value.ref _)) _ _ _))); first | (k_unfold; (try dsimp only)) | (k_end; wrow_close) | ((with_reducible show wpAny _ _ (subscriptTail _ _ (Value.ref _) (Value.int (-1) _)) _ _ _); refine' my_last ?gNq7 ?gmq7 ?gxq7 ?g0q7 ?_; (case gNq7 => k_asm); (case gmq7 => k_mem); (case gxq7 => with_reducible assumption); (case g0q7 => with_reducible assumption)) | ((with_reducible show wpAny _ _ (call (Value.builtin "list.append") [(Value.ref _), _]) _ _ _); (k_dflt (refine' append_K ?gFq7 ?gNq7 ?gUq7 ?_ ?gzq7; (case gFq7 => k_asm); (case gNq7 => k_asm); (case gUq7 => k_upd); (case gzq7 => with_reducible assumption); k_whole)); intro _ _ _) | walk1 | (dsimp only; walk1) | (leave1; walk_say "STEP leave1"; try dsimp only)))
                (with_reducible rename News _ _ _ _ => NZ)
                rw [xe, List.push_toArray] at NZ
                exact hU (by k_asm) NZ ((Dl, W.listOf (cv ++ [Value.int _ _]).toArray (kc + 1)) :: (37, o30) :: (44, o37) :: (s1.heap.objs.size + 1 + 1, oC) :: (s1.heap.objs.size + 1, oN) :: (D8, LCg.lst ys) :: (Dc, W.listOf (ts1.map fun e => Value.ref e.1).toArray n1) :: (Dx, W.listOf (ts2.map fun e => Value.ref e.1).toArray n2) :: E3) (fun p hp => hp) (FMC.all ⟨Nat.ne_of_lt hIl, fun q hq => Nat.ne_of_lt (hI q (.tail _ hq))⟩)
                  ⟨.tail _ (.tail _ (.tail _ (.tail _ (.tail _ (.head _))))), fun _ kk => kk (pre ++ [a]) fs _ _ _ _ hus2 (by rw [List.append_assoc]; exact hR) xl (fun q hq => hfs q (.tail _ hq)) (ints_snocN hcv) (by rw [List.length_append, List.length_singleton, Nat.add_assoc, Nat.add_comm 1]; exact hlen) rfl rfl rfl rfl rfl rfl⟩
            case doneCq7 =>
              intro m nw hP
              apply hP
              clear hP
              intro pre fs a cv kc tw hus hR ha hfs hcv hlen y1 y2 y3 y4 y5 y6 h9 tk9 F9 N9
              rw [mx6 y1 y2 y3 y4 y5 y6] at F9
              cases fs with
              | cons => cases hus
              | nil =>
                replace hcv : IntsAre cv (castL (corL (figL X) 0)) := hR ▸ hcv
                clear hus hR hlen ha hfs hI y1 y2 y3 y4 y5 y6
                have hgc := corL_good X
                dsimp only
                have kp := And.intro q44 (And.intro q37 (And.intro hX9 (And.intro r1 (And.intro r2 (And.intro r3 (And.intro r4 (And.intro r5 (And.intro r6 (And.intro r7 (And.intro hB2D (And.intro hB2X (And.intro F9 (N9)))))))))))))
                repeat (with_reducible rename News _ _ _ _ => zz; clear zz)
                repeat (with_reducible rename Fr _ _ _ _ => zz; clear zz)
                repeat (with_reducible rename AllLt _ _ => zz; clear zz)
                repeat (with_reducible rename @LT.lt Nat _ _ _ => zz; clear zz)
                repeat (with_reducible rename @LT.lt Addr _ _ _ => zz; clear zz)
                repeat (with_reducible rename @LE.le Nat _ _ _ => zz; clear zz)
                repeat (with_reducible rename LCg.Off1 _ _ => zz; clear zz)
                repeat (with_reducible rename LCg.Off3 _ _ _ _ => zz; clear zz)
                obtain ⟨q44, q37, hX9, r1, r2, r3, r4, r5, r6, r7, hB2D, hB2X, F9, N9⟩ := kp
                (repeat' ((fail_if_success (first | (with_reducible show wpAny _ _ (call (Value.ref _) _) _ _ _) | (with_reducible show wpAny _ _ (pyIter _) _ _ _) | (with_reducible show UnrPost _ _ _ _ _ _ _ _ _) | (with_reducible show wpAny _ _ (exec (Stmt.Assign _ (PySem.Expr.ListComp _ _ _ _) _) _) _ _ _) | (with_reducible show wpAny _ _ (eval (PySem.Expr.ListComp _ _ _ _) _) _ _ _) | (with_reducible show wpAny _ _ (call (Value.type "zip") _) _ _ _) | (with_reducible show MEnd _ _ _ _ _ _ _ _ _ _ _ _ _) | (with_reducible show wpAny _ _ (exec (Stmt.For _ _ _ _ _) _) _ _ _) | (with_reducible show wpAny _ _ (exec (Stmt.While _ _ _ _) _) _ _ _) | (with_reducible show wpAny _ _ (eval (PySem.Expr.IfExp _ _ _ _) _) _ _ _) | (with_reducible show wpAny _ _ (compareOp .NotEq (Value.ref _) (Value.ref _)) _ _ _))); first | (k_unfold; (try dsimp only)) | (k_end; wrow_close) | ((with_reducible show wpAny _ _ (callWith _ (Value.ref _) _ _ _) _ _ _); (k_here; (k_dflt (refine' callWith_K ?k1q7 ?k2q7 ?_; (case k1q7 => k_asm); (case k2q7 => k_is); k_whole)))) | walk1 | (dsimp only; walk1) | (leave1; walk_say "STEP leave1"; try dsimp only)))
                refine' (nested (w := w) (wordC (corL (figL X) 0)) wordC_len ways _ _).use (K := K02) ?B1q7 ?F1q7 ?X1q7 ?N1q7 ?T1q7 ?eH1q7 rfl ?hd1q7 ?hu1q7 ?_
                case N1q7 => k_asm
                case eH1q7 => exact ⟨by assumption, by assumption⟩
                case B1q7 => k_asm
                case F1q7 => k_asm
                case X1q7 => k_asm
                case T1q7 => k_asm
                case hd1q7 => ktr_room
                case hu1q7 => ktr_units
                intro tn1 h1 tk1 F1 N1
                (repeat' ((fail_if_success (first | (with_reducible show wpAny _ _ (call (Value.ref _) _) _ _ _) | (with_reducible show wpAny _ _ (pyIter _) _ _ _) | (with_reducible show UnrPost _ _ _ _ _ _ _ _ _) | (with_reducible show wpAny _ _ (exec (Stmt.Assign _ (PySem.Expr.ListComp _ _ _ _) _) _) _ _ _) | (with_reducible show wpAny _ _ (eval (PySem.Expr.ListComp _ _ _ _) _) _ _ _) | (with_reducible show wpAny _ _ (call (Value.type "zip") _) _ _ _) | (with_reducible show MEnd _ _ _ _ _ _ _ _ _ _ _ _ _) | (with_reducible show wpAny _ _ (exec (Stmt.For _ _ _ _ _) _) _ _ _) | (with_reducible show wpAny _ _ (exec (Stmt.While _ _ _ _) _) _ _ _) | (with_reducible show wpAny _ _ (eval (PySem.Expr.IfExp _ _ _ _) _) _ _ _) | (with_reducible show wpAny _ _ (compareOp .NotEq (Value.ref _) (Value.ref _)) _ _ _))); first | (k_unfold; (try dsimp only)) | (k_end; wrow_close) | walk1 | (dsimp only; walk1) | (leave1; walk_say "STEP leave1"; try dsimp only)))
                refine' (bytext (w := w) (nestF (wordC (corL (figL X) 0)) ways) (c100 nest_len5) _).use (K := K02) ?B2q7 ?F2q7 ?X2q7 ?N2q7 ?T2q7 ?eH2q7 rfl ?hd2q7 ?hu2q7 ?_
                case N2q7 => k_asm
                case eH2q7 => exact ⟨by assumption, by assumption⟩
                case B2q7 => k_asm
                case F2q7 => k_asm
                case X2q7 => k_asm
                case T2q7 => k_asm
                case hd2q7 => ktr_room
                case hu2q7 => ktr_units
                intro Da ta1 ua1 hltA h2 tk2 F2 N2
                rw [by_text hgc ways] at N2
                k_lt hltA
                (repeat' ((fail_if_success (first | (with_reducible show wpAny _ _ (call (Value.ref _) _) _ _ _) | (with_reducible show wpAny _ _ (pyIter _) _ _ _) | (with_reducible show UnrPost _ _ _ _ _ _ _ _ _) | (with_reducible show wpAny _ _ (exec (Stmt.Assign _ (PySem.Expr.ListComp _ _ _ _) _) _) _ _ _) | (with_reducible show wpAny _ _ (eval (PySem.Expr.ListComp _ _ _ _) _) _ _ _) | (with_reducible show wpAny _ _ (call (Value.type "zip") _) _ _ _) | (with_reducible show MEnd _ _ _ _ _ _ _ _ _ _ _ _ _) | (with_reducible show wpAny _ _ (exec (Stmt.For _ _ _ _ _) _) _ _ _) | (with_reducible show wpAny _ _ (exec (Stmt.While _ _ _ _) _) _ _ _) | (with_reducible show wpAny _ _ (eval (PySem.Expr.IfExp _ _ _ _) _) _ _ _) | (with_reducible show wpAny _ _ (compareOp .NotEq (Value.ref _) (Value.ref _)) _ _ _))); first | (k_unfold; (try dsimp only)) | (k_end; wrow_close) | ((with_reducible show wpAny _ _ (callWith _ (Value.ref _) _ _ _) _ _ _); (k_here; (k_dflt (refine' callWith_K ?k1q7 ?k2q7 ?_; (case k1q7 => k_asm); (case k2q7 => k_is); k_whole)))) | walk1 | (dsimp only; walk1) | (leave1; walk_say "STEP leave1"; try dsimp only)))
                refine' (told (w := w) (news := (Dl, W.listOf cv.toArray kc) :: (37, o30) :: (44, o37) :: (s1.heap.objs.size + 1 + 1, oC) :: (s1.heap.objs.size + 1, oN) :: (D8, LCg.lst ys) :: (Dc, W.listOf (ts1.map fun e => Value.ref e.1).toArray n1) :: (Dx, W.listOf (ts2.map fun e => Value.ref e.1).toArray n2) :: E3) (corL (figL X) 0) hgc.1 hgc.2.1 (shp ways) shp_6 shp_root shp_50 Dl Dc cv kc n1 (by assumption) (.head _) ts1 hts1 (.tail _ (.tail _ (.tail _ (.tail _ (.tail _ (.tail _ (.head _))))))) (fun e he => (.tail _ (.tail _ (.tail _ (.tail _ (.tail _ (.tail _ (.tail _ (.tail _ (hin1' e he))))))))))).use (K := K02) ?B3q7 ?F3q7 ?X3q7 ?N3q7 ?T3q7 ?eH3q7 rfl ?hd3q7 ?hu3q7 ?_
                case N3q7 => exact newsSub (by k_asm) (fun p hp => .tail _ hp)
                case eH3q7 => exact ⟨by assumption, by assumption⟩
                case B3q7 => k_asm
                case F3q7 => k_asm
                case X3q7 => k_asm
                case T3q7 => k_asm
                case hd3q7 => ktr_room
                case hu3q7 => ktr_units
                intro tb1 h3 tk3 F3 N3
                clear F2 N2 F1 N1
                (repeat' ((fail_if_success (first | (with_reducible show wpAny _ _ (call (Value.ref _) _) _ _ _) | (with_reducible show wpAny _ _ (pyIter _) _ _ _) | (with_reducible show UnrPost _ _ _ _ _ _ _ _ _) | (with_reducible show wpAny _ _ (exec (Stmt.Assign _ (PySem.Expr.ListComp _ _ _ _) _) _) _ _ _) | (with_reducible show wpAny _ _ (eval (PySem.Expr.ListComp _ _ _ _) _) _ _ _) | (with_reducible show wpAny _ _ (call (Value.type "zip") _) _ _ _) | (with_reducible show MEnd _ _ _ _ _ _ _ _ _ _ _ _ _) | (with_reducible show wpAny _ _ (exec (Stmt.For _ _ _ _ _) _) _ _ _) | (with_reducible show wpAny _ _ (exec (Stmt.While _ _ _ _) _) _ _ _) | (with_reducible show wpAny _ _ (eval (PySem.Expr.IfExp _ _ _ _) _) _ _ _) | (with_reducible show wpAny _ _ (compareOp .NotEq (Value.ref _) (Value.ref _)) _ _ _))); first | (k_unfold; (try dsimp only)) | (k_end; wrow_close) | (with_reducible refine my_ne_same ?_) | ((with_reducible show ite _ _ _); refine ite_neg (by decide +kernel) ?_) | ((with_reducible show wpAny _ _ (callWith _ (Value.ref _) _ _ _) _ _ _); (k_here; (k_dflt (refine' callWith_K ?k1q7 ?k2q7 ?_; (case k1q7 => k_asm); (case k2q7 => k_is); k_whole)))) | walk1 | (dsimp only; walk1) | (leave1; walk_say "STEP leave1"; try dsimp only)))
                refine' (nested (w := w) (wordC (corL (figL X) 0)) wordC_len other _ _).use (K := K02) ?B4q7 ?F4q7 ?X4q7 ?N4q7 ?T4q7 ?eH4q7 rfl ?hd4q7 ?hu4q7 ?_
                case N4q7 => k_asm
                case eH4q7 => exact ⟨by assumption, by assumption⟩
                case B4q7 => k_asm
                case F4q7 => k_asm
                case X4q7 => k_asm
                case T4q7 => k_asm
                case hd4q7 => ktr_room
                case hu4q7 => ktr_units
                intro tn4 h4 tk4 F4 N4
                (repeat' ((fail_if_success (first | (with_reducible show wpAny _ _ (call (Value.ref _) _) _ _ _) | (with_reducible show wpAny _ _ (pyIter _) _ _ _) | (with_reducible show UnrPost _ _ _ _ _ _ _ _ _) | (with_reducible show wpAny _ _ (exec (Stmt.Assign _ (PySem.Expr.ListComp _ _ _ _) _) _) _ _ _) | (with_reducible show wpAny _ _ (eval (PySem.Expr.ListComp _ _ _ _) _) _ _ _) | (with_reducible show wpAny _ _ (call (Value.type "zip") _) _ _ _) | (with_reducible show MEnd _ _ _ _ _ _ _ _ _ _ _ _ _) | (with_reducible show wpAny _ _ (exec (Stmt.For _ _ _ _ _) _) _ _ _) | (with_reducible show wpAny _ _ (exec (Stmt.While _ _ _ _) _) _ _ _) | (with_reducible show wpAny _ _ (eval (PySem.Expr.IfExp _ _ _ _) _) _ _ _) | (with_reducible show wpAny _ _ (compareOp .NotEq (Value.ref _) (Value.ref _)) _ _ _))); first | (k_unfold; (try dsimp only)) | (k_end; wrow_close) | walk1 | (dsimp only; walk1) | (leave1; walk_say "STEP leave1"; try dsimp only)))
                refine' (bycol (w := w) (nestF (wordC (corL (figL X) 0)) other) (c50 nest_len5) (nest_sg5 hgc) _ _ (by_col hgc other) _).use (K := K02) ?B5q7 ?F5q7 ?X5q7 ?N5q7 ?T5q7 ?eH5q7 rfl ?hd5q7 ?hu5q7 ?_
                case N5q7 => k_asm
                case eH5q7 => exact ⟨by assumption, by assumption⟩
                case B5q7 => k_asm
                case F5q7 => k_asm
                case X5q7 => k_asm
                case T5q7 => k_asm
                case hd5q7 => ktr_room
                case hu5q7 => ktr_units
                intro Db tb5 ub5 hltB h5 tk5 F5 N5
                rw [(treC_told hgc other).1] at N5
                k_lt hltB
                (repeat' ((fail_if_success (first | (with_reducible show wpAny _ _ (call (Value.ref _) _) _ _ _) | (with_reducible show wpAny _ _ (pyIter _) _ _ _) | (with_reducible show UnrPost _ _ _ _ _ _ _ _ _) | (with_reducible show wpAny _ _ (exec (Stmt.Assign _ (PySem.Expr.ListComp _ _ _ _) _) _) _ _ _) | (with_reducible show wpAny _ _ (eval (PySem.Expr.ListComp _ _ _ _) _) _ _ _) | (with_reducible show wpAny _ _ (call (Value.type "zip") _) _ _ _) | (with_reducible show MEnd _ _ _ _ _ _ _ _ _ _ _ _ _) | (with_reducible show wpAny _ _ (exec (Stmt.For _ _ _ _ _) _) _ _ _) | (with_reducible show wpAny _ _ (exec (Stmt.While _ _ _ _) _) _ _ _) | (with_reducible show wpAny _ _ (eval (PySem.Expr.IfExp _ _ _ _) _) _ _ _) | (with_reducible show wpAny _ _ (compareOp .NotEq (Value.ref _) (Value.ref _)) _ _ _))); first | (k_unfold; (try dsimp only)) | (k_end; wrow_close) | ((with_reducible show wpAny _ _ (callWith _ (Value.ref _) _ _ _) _ _ _); (k_here; (k_dflt (refine' callWith_K ?k1q7 ?k2q7 ?_; (case k1q7 => k_asm); (case k2q7 => k_is); k_whole)))) | walk1 | (dsimp only; walk1) | (leave1; walk_say "STEP leave1"; try dsimp only)))
                refine' (told (w := w) (news := (Dl, W.listOf cv.toArray kc) :: (37, o30) :: (44, o37) :: (s1.heap.objs.size + 1 + 1, oC) :: (s1.heap.objs.size + 1, oN) :: (D8, LCg.lst ys) :: (Dc, W.listOf (ts1.map fun e => Value.ref e.1).toArray n1) :: (Dx, W.listOf (ts2.map fun e => Value.ref e.1).toArray n2) :: E3) (corL (figL X) 0) hgc.1 hgc.2.1 (shp other) shp_6 shp_root shp_50 Dl Dx cv kc n2 (by assumption) (.head _) ts2 hts2 (.tail _ (.tail _ (.tail _ (.tail _ (.tail _ (.tail _ (.tail _ (.head _)))))))) (fun e he => (.tail _ (.tail _ (.tail _ (.tail _ (.tail _ (.tail _ (.tail _ (.tail _ (hin2' e he))))))))))).use (K := K02) ?B6q7 ?F6q7 ?X6q7 ?N6q7 ?T6q7 ?eH6q7 rfl ?hd6q7 ?hu6q7 ?_
                case N6q7 => exact newsSub (by k_asm) (fun p hp => .tail _ hp)
                case eH6q7 => exact ⟨by assumption, by assumption⟩
                case B6q7 => k_asm
                case F6q7 => k_asm
                case X6q7 => k_asm
                case T6q7 => k_asm
                case hd6q7 => ktr_room
                case hu6q7 => ktr_units
                intro tb6 h6 tk6 F6 N6
                clear F5 N5 F4 N4
                obtain ⟨R, hR, hgR, hun⟩ := painted X ways other
                (repeat' ((fail_if_success (first | (with_reducible show wpAny _ _ (call (Value.ref _) _) _ _ _) | (with_reducible show wpAny _ _ (pyIter _) _ _ _) | (with_reducible show UnrPost _ _ _ _ _ _ _ _ _) | (with_reducible show wpAny _ _ (exec (Stmt.Assign _ (PySem.Expr.ListComp _ _ _ _) _) _) _ _ _) | (with_reducible show wpAny _ _ (eval (PySem.Expr.ListComp _ _ _ _) _) _ _ _) | (with_reducible show wpAny _ _ (call (Value.type "zip") _) _ _ _) | (with_reducible show MEnd _ _ _ _ _ _ _ _ _ _ _ _ _) | (with_reducible show wpAny _ _ (exec (Stmt.For _ _ _ _ _) _) _ _ _) | (with_reducible show wpAny _ _ (exec (Stmt.While _ _ _ _) _) _ _ _) | (with_reducible show wpAny _ _ (eval (PySem.Expr.IfExp _ _ _ _) _) _ _ _) | (with_reducible show wpAny _ _ (compareOp .NotEq (Value.ref _) (Value.ref _)) _ _ _))); first | (k_unfold; (try dsimp only)) | (k_end; wrow_close) | (with_reducible refine my_ne_same ?_) | ((with_reducible show ite _ _ _); refine ite_neg (by decide +kernel) ?_) | ((with_reducible show wpAny _ _ (callWith _ (Value.ref _) _ _ _) _ _ _); (k_here; (k_dflt (refine' callWith_K ?k1q7 ?k2q7 ?_; (case k1q7 => k_asm); (case k2q7 => k_is); k_whole)))) | walk1 | (dsimp only; walk1) | (leave1; walk_say "STEP leave1"; try dsimp only)))
                (with_reducible rename Fr _ _ _ _ => FQ)
                (with_reducible rename News _ _ _ _ => NQ)
                refine my_addL FQ NQ (.tail _ (.tail _ (.tail _ (.tail _ (.tail _ (.tail _ (.head _))))))) (.tail _ (.tail _ (.tail _ (.tail _ (.tail _ (.tail _ (.tail _ (.head _)))))))) (prs_1000 hts1 hts2) ?_
                clear FQ NQ
                intro Dp hP FP NP ltP
                rw [← List.map_append] at NP
                k_lt ltP
                (repeat' ((fail_if_success (first | (with_reducible show wpAny _ _ (call (Value.ref _) _) _ _ _) | (with_reducible show wpAny _ _ (pyIter _) _ _ _) | (with_reducible show UnrPost _ _ _ _ _ _ _ _ _) | (with_reducible show wpAny _ _ (exec (Stmt.Assign _ (PySem.Expr.ListComp _ _ _ _) _) _) _ _ _) | (with_reducible show wpAny _ _ (eval (PySem.Expr.ListComp _ _ _ _) _) _ _ _) | (with_reducible show wpAny _ _ (call (Value.type "zip") _) _ _ _) | (with_reducible show MEnd _ _ _ _ _ _ _ _ _ _ _ _ _) | (with_reducible show wpAny _ _ (exec (Stmt.For _ _ _ _ _) _) _ _ _) | (with_reducible show wpAny _ _ (exec (Stmt.While _ _ _ _) _) _ _ _) | (with_reducible show wpAny _ _ (eval (PySem.Expr.IfExp _ _ _ _) _) _ _ _) | (with_reducible show wpAny _ _ (compareOp .NotEq (Value.ref _) (Value.ref _)) _ _ _))); first | (k_unfold; (try dsimp only)) | (k_end; wrow_close) | walk1 | (dsimp only; walk1) | (leave1; walk_say "STEP leave1"; try dsimp only)))
                refine' (paintedC (w := w) (news := (Dp, W.listOf ((ts1 ++ ts2).map fun e => Value.ref e.1).toArray 0) :: (Dl, W.listOf cv.toArray kc) :: (37, o30) :: (44, o37) :: (s1.heap.objs.size + 1 + 1, oC) :: (s1.heap.objs.size + 1, oN) :: (D8, LCg.lst ys) :: (Dc, W.listOf (ts1.map fun e => Value.ref e.1).toArray n1) :: (Dx, W.listOf (ts2.map fun e => Value.ref e.1).toArray n2) :: E3) (figL X) rfl figL_lt (shp ways ++ shp other) shp2_lt shp2_50 R hR D8 Dp ys ys.length 0 hfig (.tail _ (.tail _ (.tail _ (.tail _ (.tail _ (.tail _ (.head _))))))) (ts1 ++ ts2) (hts1.app hts2) (.head _) (fun e he => (.tail _ (.tail _ (.tail _ (.tail _ (.tail _ (.tail _ (.tail _ (.tail _ (.tail _ (mem_two hin1' hin2' e he)))))))))))).use (K := K02) ?B7q7 ?F7q7 ?X7q7 ?N7q7 ?T7q7 ?eH7q7 rfl ?hd7q7 ?hu7q7 ?_
                case N7q7 => k_asm
                case eH7q7 => exact ⟨by assumption, by assumption⟩
                case B7q7 => k_asm
                case F7q7 => k_asm
                case X7q7 => k_asm
                case T7q7 => k_asm
                case hd7q7 => ktr_room
                case hu7q7 => ktr_units
                intro Dr rv kr hrv hnr h7 tk7 F7 N7
                have hBr : @Ne Nat Dr (s1.heap.objs.size + 1 + 1) := Ne.symm (hnr (s1.heap.objs.size + 1 + 1, oC) (.tail _ (.tail _ (.tail _ (.tail _ (.head _))))))
                clear hnr
                (repeat' ((fail_if_success (first | (with_reducible show wpAny _ _ (call (Value.ref _) _) _ _ _) | (with_reducible show wpAny _ _ (pyIter _) _ _ _) | (with_reducible show UnrPost _ _ _ _ _ _ _ _ _) | (with_reducible show wpAny _ _ (exec (Stmt.Assign _ (PySem.Expr.ListComp _ _ _ _) _) _) _ _ _) | (with_reducible show wpAny _ _ (eval (PySem.Expr.ListComp _ _ _ _) _) _ _ _) | (with_reducible show wpAny _ _ (call (Value.type "zip") _) _ _ _) | (with_reducible show MEnd _ _ _ _ _ _ _ _ _ _ _ _ _) | (with_reducible show wpAny _ _ (exec (Stmt.For _ _ _ _ _) _) _ _ _) | (with_reducible show wpAny _ _ (exec (Stmt.While _ _ _ _) _) _ _ _) | (with_reducible show wpAny _ _ (eval (PySem.Expr.IfExp _ _ _ _) _) _ _ _) | (with_reducible show wpAny _ _ (compareOp .NotEq (Value.ref _) (Value.ref _)) _ _ _))); first | (k_unfold; (try dsimp only)) | (k_end; wrow_close) | walk1 | (dsimp only; walk1) | (leave1; walk_say "STEP leave1"; try dsimp only)))
                rename_i hE oR FE NE dR
                replace NE := newsSub (T := (Dr, W.listOf rv.toArray kr) :: (37, o30) :: (44, o37) :: (s1.heap.objs.size + 1 + 1, oR) :: (s1.heap.objs.size + 1, oN) :: (Dc, W.listOf (ts1.map fun e => Value.ref e.1).toArray n1) :: (Dx, W.listOf (ts2.map fun e => Value.ref e.1).toArray n2) :: E3) NE (FMC.all ⟨.head _, FMC.all ⟨(.tail _ (.tail _ (.tail _ (.head _)))), FMC.all ⟨(.tail _ (.tail _ (.tail _ (.tail _ (.head _))))), FMC.all ⟨(.tail _ (.tail _ (.tail _ (.tail _ (.tail _ (.head _)))))), FMC.all ⟨(.tail _ (.tail _ (.tail _ (.tail _ (.tail _ (.tail _ (.head _))))))), FMC.all ⟨(.tail _ (.tail _ (.tail _ (.tail _ (.tail _ (.tail _ (.tail _ (.tail _ (.head _))))))))), FMC.all ⟨(.tail _ (.tail _ (.tail _ (.tail _ (.tail _ (.tail _ (.tail _ (.tail _ (.tail _ (.head _)))))))))), fun p hp => (.tail _ (.tail _ (.tail _ (.tail _ (.tail _ (.tail _ (.tail _ (.tail _ (.tail _ (.tail _ (hp)))))))))))⟩⟩⟩⟩⟩⟩⟩)
                have kp := And.intro q44 (And.intro q37 (And.intro hX9 (And.intro FE (NE))))
                repeat (with_reducible rename News _ _ _ _ => zz; clear zz)
                repeat (with_reducible rename Fr _ _ _ _ => zz; clear zz)
                repeat (with_reducible rename AllLt _ _ => zz; clear zz)
                repeat (with_reducible rename @LT.lt Nat _ _ _ => zz; clear zz)
                repeat (with_reducible rename @LT.lt Addr _ _ _ => zz; clear zz)
                repeat (with_reducible rename @LE.le Nat _ _ _ => zz; clear zz)
                repeat (with_reducible rename LCg.Off1 _ _ => zz; clear zz)
                repeat (with_reducible rename LCg.Off3 _ _ _ _ => zz; clear zz)
                obtain ⟨q44, q37, hX9, FE, NE⟩ := kp
                (k_dflt (refine LCg.ListComp_U (F₀ := by k_asm) (by with_unfolding_all rfl) (by decide) (by rfl) (by decide) (by rfl) ?_))
                (repeat' ((fail_if_success (first | (with_reducible show wpAny _ _ (call (Value.ref _) _) _ _ _) | (with_reducible show wpAny _ _ (pyIter _) _ _ _) | (with_reducible show UnrPost _ _ _ _ _ _ _ _ _) | (with_reducible show wpAny _ _ (exec (Stmt.Assign _ (PySem.Expr.ListComp _ _ _ _) _) _) _ _ _) | (with_reducible show wpAny _ _ (eval (PySem.Expr.ListComp _ _ _ _) _) _ _ _) | (with_reducible show wpAny _ _ (call (Value.type "zip") _) _ _ _) | (with_reducible show MEnd _ _ _ _ _ _ _ _ _ _ _ _ _) | (with_reducible show wpAny _ _ (exec (Stmt.For _ _ _ _ _) _) _ _ _) | (with_reducible show wpAny _ _ (exec (Stmt.While _ _ _ _) _) _ _ _) | (with_reducible show wpAny _ _ (eval (PySem.Expr.IfExp _ _ _ _) _) _ _ _) | (with_reducible show LCg.CompSrc _ _ _ _ _ _ _ _ _ _ _ _ _ _) | (with_reducible show LCg.CompEnd _ _ _ _ _ _ _ _ _ _ _ _ _ _) | (with_reducible show wpAny _ _ (compareOp .NotEq (Value.ref _) (Value.ref _)) _ _ _))); first | (k_unfold; (try dsimp only)) | (k_end; wrow_close) | walk1 | (dsimp only; walk1) | (leave1; walk_say "STEP leave1"; try dsimp only)))
                refine LCg.CompSrc.range (by rfl) (by k_asm) (by k_asm) (by assumption) (by decide) rfl (Nat.le_of_ble_eq_true rfl) ?_
                intro g5
                refine comp_rng (fun i y => ∃ t, y = .str (one1 (letN (edg R i))) t) ?turnQq7 ?finQq7
                case turnQq7 =>
                  intro i t I oI C oC9 D m₂ ys9 h tk E' hi hC hx F N off ne
                  obtain ⟨ta9, hta⟩ := nats_at hrv (j := i) (by rw [hgR.1]; exact Nat.lt_succ_of_lt hi)
                  obtain ⟨tb9, htb⟩ := nats_atS hrv (j := i) (by rw [hgR.1]; exact Nat.succ_lt_succ hi)
                  obtain ⟨⟨w0, w1⟩, w2, w3⟩ := rng5 hi
                  (repeat' ((fail_if_success (first | (with_reducible show wpAny _ _ (call (Value.ref _) _) _ _ _) | (with_reducible show wpAny _ _ (pyIter _) _ _ _) | (with_reducible show UnrPost _ _ _ _ _ _ _ _ _) | (with_reducible show wpAny _ _ (exec (Stmt.Assign _ (PySem.Expr.ListComp _ _ _ _) _) _) _ _ _) | (with_reducible show wpAny _ _ (eval (PySem.Expr.ListComp _ _ _ _) _) _ _ _) | (with_reducible show wpAny _ _ (call (Value.type "zip") _) _ _ _) | (with_reducible show MEnd _ _ _ _ _ _ _ _ _ _ _ _ _) | (with_reducible show wpAny _ _ (exec (Stmt.For _ _ _ _ _) _) _ _ _) | (with_reducible show wpAny _ _ (exec (Stmt.While _ _ _ _) _) _ _ _) | (with_reducible show wpAny _ _ (eval (PySem.Expr.IfExp _ _ _ _) _) _ _ _) | (with_reducible show LCg.CompSrc _ _ _ _ _ _ _ _ _ _ _ _ _ _) | (with_reducible show LCg.CompEnd _ _ _ _ _ _ _ _ _ _ _ _ _ _) | (with_reducible show wpAny _ _ (compareOp .NotEq (Value.ref _) (Value.ref _)) _ _ _))); first | (k_unfold; (try dsimp only)) | (k_end; wrow_close) | ((with_reducible show wpAny _ _ (subscriptTail _ _ (Value.ref _) (Value.int _ _)) _ _ _); refine' my_at ?gNq7 ?gmq7 ?g0q7 ?g1q7 ?gxq7 ?_; (case gNq7 => k_asm); (case gmq7 => k_mem); (case g0q7 => with_reducible assumption); (case g1q7 => with_reducible assumption); (case gxq7 => with_reducible assumption)) | ((with_reducible show wpAny _ _ (eval (PySem.Expr.Name _ _) (compEnvC _ _ _ _)) _ _ _); k_dflt (refine LCgL.ld_own (by k_asm) (by k_mem) (by assumption) (by assumption) ?_)) | walk1 | (dsimp only; walk1) | (leave1; walk_say "STEP leave1"; try dsimp only)))
                  rw [edgI hgR hi]
                  refine my_rgbAt (edg_lt hgR (Nat.succ_lt_succ hi)) ?_
                  intro tq tk9
                  exact LCg.CompEnd.intro F N _ (fun p hp => hp) off True.intro ⟨rfl, _, rfl⟩
                case finQq7 =>
                  intro ys9 hyl hy
                  intro D9 h9 tk9 F9 N9 off9
                  clear off9
                  obtain ⟨hb1, hb2, hb3⟩ := both hgR ways other hun
                  dsimp only
                  (repeat' ((fail_if_success (first | (with_reducible show wpAny _ _ (call (Value.ref _) _) _ _ _) | (with_reducible show wpAny _ _ (pyIter _) _ _ _) | (with_reducible show UnrPost _ _ _ _ _ _ _ _ _) | (with_reducible show wpAny _ _ (exec (Stmt.Assign _ (PySem.Expr.ListComp _ _ _ _) _) _) _ _ _) | (with_reducible show wpAny _ _ (eval (PySem.Expr.ListComp _ _ _ _) _) _ _ _) | (with_reducible show wpAny _ _ (call (Value.type "zip") _) _ _ _) | (with_reducible show MEnd _ _ _ _ _ _ _ _ _ _ _ _ _) | (with_reducible show wpAny _ _ (exec (Stmt.For _ _ _ _ _) _) _ _ _) | (with_reducible show wpAny _ _ (exec (Stmt.While _ _ _ _) _) _ _ _) | (with_reducible show wpAny _ _ (eval (PySem.Expr.IfExp _ _ _ _) _) _ _ _) | (with_reducible show wpAny _ _ (compareOp .NotEq (Value.ref _) (Value.ref _)) _ _ _))); first | (k_unfold; (try dsimp only)) | (k_end; wrow_close) | walk1 | (dsimp only; walk1) | (leave1; walk_say "STEP leave1"; try dsimp only)))
                  refine my_join5 N9 (.head _) hyl hy ?_
                  intro tw9 k9
                  replace N9 := newsSub N9 (fun p hp => .tail _ hp)
                  (repeat' ((fail_if_success (first | (with_reducible show wpAny _ _ (call (Value.ref _) _) _ _ _) | (with_reducible show wpAny _ _ (pyIter _) _ _ _) | (with_reducible show UnrPost _ _ _ _ _ _ _ _ _) | (with_reducible show wpAny _ _ (exec (Stmt.Assign _ (PySem.Expr.ListComp _ _ _ _) _) _) _ _ _) | (with_reducible show wpAny _ _ (eval (PySem.Expr.ListComp _ _ _ _) _) _ _ _) | (with_reducible show wpAny _ _ (call (Value.type "zip") _) _ _ _) | (with_reducible show MEnd _ _ _ _ _ _ _ _ _ _ _ _ _) | (with_reducible show wpAny _ _ (exec (Stmt.For _ _ _ _ _) _) _ _ _) | (with_reducible show wpAny _ _ (exec (Stmt.While _ _ _ _) _) _ _ _) | (with_reducible show wpAny _ _ (eval (PySem.Expr.IfExp _ _ _ _) _) _ _ _) | (with_reducible show wpAny _ _ (compareOp .NotEq (Value.ref _) (Value.ref _)) _ _ _))); first | (k_unfold; (try dsimp only)) | (k_end; wrow_close) | ((with_reducible show wpAny _ _ (callWith _ (Value.ref _) _ _ _) _ _ _); (k_here; (k_dflt (refine' callWith_K ?k1q7 ?k2q7 ?_; (case k1q7 => k_asm); (case k2q7 => k_is); k_whole)))) | walk1 | (dsimp only; walk1) | (leave1; walk_say "STEP leave1"; try dsimp only)))
                  refine' (nested (w := w) (wordC R) wordC_len ways _ _).use (K := K02) ?B1q7 ?F1q7 ?X1q7 ?N1q7 ?T1q7 ?eH1q7 rfl ?hd1q7 ?hu1q7 ?_
                  case N1q7 => k_asm
                  case eH1q7 => exact ⟨by assumption, by assumption⟩
                  case B1q7 => k_asm
                  case F1q7 => k_asm
                  case X1q7 => k_asm
                  case T1q7 => k_asm
                  case hd1q7 => ktr_room
                  case hu1q7 => ktr_units
                  intro tn1 h1 tk1 F1 N1
                  (repeat' ((fail_if_success (first | (with_reducible show wpAny _ _ (call (Value.ref _) _) _ _ _) | (with_reducible show wpAny _ _ (pyIter _) _ _ _) | (with_reducible show UnrPost _ _ _ _ _ _ _ _ _) | (with_reducible show wpAny _ _ (exec (Stmt.Assign _ (PySem.Expr.ListComp _ _ _ _) _) _) _ _ _) | (with_reducible show wpAny _ _ (eval (PySem.Expr.ListComp _ _ _ _) _) _ _ _) | (with_reducible show wpAny _ _ (call (Value.type "zip") _) _ _ _) | (with_reducible show MEnd _ _ _ _ _ _ _ _ _ _ _ _ _) | (with_reducible show wpAny _ _ (exec (Stmt.For _ _ _ _ _) _) _ _ _) | (with_reducible show wpAny _ _ (exec (Stmt.While _ _ _ _) _) _ _ _) | (with_reducible show wpAny _ _ (eval (PySem.Expr.IfExp _ _ _ _) _) _ _ _) | (with_reducible show wpAny _ _ (compareOp .NotEq (Value.ref _) (Value.ref _)) _ _ _))); first | (k_unfold; (try dsimp only)) | (k_end; wrow_close) | walk1 | (dsimp only; walk1) | (leave1; walk_say "STEP leave1"; try dsimp only)))
                  refine' (bytext (w := w) (nestF (wordC R) ways) (c100 nest_len5) _).use (K := K02) ?B2q7 ?F2q7 ?X2q7 ?N2q7 ?T2q7 ?eH2q7 rfl ?hd2q7 ?hu2q7 ?_
                  case N2q7 => k_asm
                  case eH2q7 => exact ⟨by assumption, by assumption⟩
                  case B2q7 => k_asm
                  case F2q7 => k_asm
                  case X2q7 => k_asm
                  case T2q7 => k_asm
                  case hd2q7 => ktr_room
                  case hu2q7 => ktr_units
                  intro Da ta1 ua1 hltA h2 tk2 F2 N2
                  rw [by_text hgR ways, hb2] at N2
                  k_lt hltA
                  (repeat' ((fail_if_success (first | (with_reducible show wpAny _ _ (call (Value.ref _) _) _ _ _) | (with_reducible show wpAny _ _ (pyIter _) _ _ _) | (with_reducible show UnrPost _ _ _ _ _ _ _ _ _) | (with_reducible show wpAny _ _ (exec (Stmt.Assign _ (PySem.Expr.ListComp _ _ _ _) _) _) _ _ _) | (with_reducible show wpAny _ _ (eval (PySem.Expr.ListComp _ _ _ _) _) _ _ _) | (with_reducible show wpAny _ _ (call (Value.type "zip") _) _ _ _) | (with_reducible show MEnd _ _ _ _ _ _ _ _ _ _ _ _ _) | (with_reducible show wpAny _ _ (exec (Stmt.For _ _ _ _ _) _) _ _ _) | (with_reducible show wpAny _ _ (exec (Stmt.While _ _ _ _) _) _ _ _) | (with_reducible show wpAny _ _ (eval (PySem.Expr.IfExp _ _ _ _) _) _ _ _) | (with_reducible show wpAny _ _ (compareOp .NotEq (Value.ref _) (Value.ref _)) _ _ _))); first | (k_unfold; (try dsimp only)) | (k_end; wrow_close) | ((with_reducible show wpAny _ _ (callWith _ (Value.ref _) _ _ _) _ _ _); (k_here; (k_dflt (refine' callWith_K ?k1q7 ?k2q7 ?_; (case k1q7 => k_asm); (case k2q7 => k_is); k_whole)))) | walk1 | (dsimp only; walk1) | (leave1; walk_say "STEP leave1"; try dsimp only)))
                  refine' (nested (w := w) (wordC R) wordC_len other _ _).use (K := K02) ?B4q7 ?F4q7 ?X4q7 ?N4q7 ?T4q7 ?eH4q7 rfl ?hd4q7 ?hu4q7 ?_
                  case N4q7 => k_asm
                  case eH4q7 => exact ⟨by assumption, by assumption⟩
                  case B4q7 => k_asm
                  case F4q7 => k_asm
                  case X4q7 => k_asm
                  case T4q7 => k_asm
                  case hd4q7 => ktr_room
                  case hu4q7 => ktr_units
                  intro tn4 h4 tk4 F4 N4
                  (repeat' ((fail_if_success (first | (with_reducible show wpAny _ _ (call (Value.ref _) _) _ _ _) | (with_reducible show wpAny _ _ (pyIter _) _ _ _) | (with_reducible show UnrPost _ _ _ _ _ _ _ _ _) | (with_reducible show wpAny _ _ (exec (Stmt.Assign _ (PySem.Expr.ListComp _ _ _ _) _) _) _ _ _) | (with_reducible show wpAny _ _ (eval (PySem.Expr.ListComp _ _ _ _) _) _ _ _) | (with_reducible show wpAny _ _ (call (Value.type "zip") _) _ _ _) | (with_reducible show MEnd _ _ _ _ _ _ _ _ _ _ _ _ _) | (with_reducible show wpAny _ _ (exec (Stmt.For _ _ _ _ _) _) _ _ _) | (with_reducible show wpAny _ _ (exec (Stmt.While _ _ _ _) _) _ _ _) | (with_reducible show wpAny _ _ (eval (PySem.Expr.IfExp _ _ _ _) _) _ _ _) | (with_reducible show wpAny _ _ (compareOp .NotEq (Value.ref _) (Value.ref _)) _ _ _))); first | (k_unfold; (try dsimp only)) | (k_end; wrow_close) | walk1 | (dsimp only; walk1) | (leave1; walk_say "STEP leave1"; try dsimp only)))
                  refine' (bycol (w := w) (nestF (wordC R) other) (c50 nest_len5) (nest_sg5 hgR) _ _ (by_col hgR other) _).use (K := K02) ?B5q7 ?F5q7 ?X5q7 ?N5q7 ?T5q7 ?eH5q7 rfl ?hd5q7 ?hu5q7 ?_
                  case N5q7 => k_asm
                  case eH5q7 => exact ⟨by assumption, by assumption⟩
                  case B5q7 => k_asm
                  case F5q7 => k_asm
                  case X5q7 => k_asm
                  case T5q7 => k_asm
                  case hd5q7 => ktr_room
                  case hu5q7 => ktr_units
                  intro Db tb5 ub5 hltB h5 tk5 F5 N5
                  rw [(treC_told hgR other).1, ← hb1] at N5
                  k_lt hltB
                  (repeat' ((fail_if_success (first | (with_reducible show wpAny _ _ (call (Value.ref _) _) _ _ _) | (with_reducible show wpAny _ _ (pyIter _) _ _ _) | (with_reducible show UnrPost _ _ _ _ _ _ _ _ _) | (with_reducible show wpAny _ _ (exec (Stmt.Assign _ (PySem.Expr.ListComp _ _ _ _) _) _) _ _ _) | (with_reducible show wpAny _ _ (eval (PySem.Expr.ListComp _ _ _ _) _) _ _ _) | (with_reducible show wpAny _ _ (call (Value.type "zip") _) _ _ _) | (with_reducible show MEnd _ _ _ _ _ _ _ _ _ _ _ _ _) | (with_reducible show wpAny _ _ (exec (Stmt.For _ _ _ _ _) _) _ _ _) | (with_reducible show wpAny _ _ (exec (Stmt.While _ _ _ _) _) _ _ _) | (with_reducible show wpAny _ _ (eval (PySem.Expr.IfExp _ _ _ _) _) _ _ _) | (with_reducible show wpAny _ _ (compareOp .NotEq (Value.ref _) (Value.ref _)) _ _ _))); first | (k_unfold; (try dsimp only)) | (k_end; wrow_close) | ((with_reducible show wpAny _ _ (callWith _ (Value.ref _) _ _ _) _ _ _); (k_here; (k_dflt (refine' callWith_K ?k1q7 ?k2q7 ?_; (case k1q7 => k_asm); (case k2q7 => k_is); k_whole)))) | walk1 | (dsimp only; walk1) | (leave1; walk_say "STEP leave1"; try dsimp only)))
                  refine' (told (w := w) (news := (Dr, W.listOf rv.toArray kr) :: (37, o30) :: (44, o37) :: (s1.heap.objs.size + 1 + 1, oR) :: (s1.heap.objs.size + 1, oN) :: (Dc, W.listOf (ts1.map fun e => Value.ref e.1).toArray n1) :: (Dx, W.listOf (ts2.map fun e => Value.ref e.1).toArray n2) :: E3) R hgR.1 hgR.2.1 (shp ways) shp_6 shp_root shp_50 Dr Dc rv kr n1 hrv (.head _) ts1 hts1 (.tail _ (.tail _ (.tail _ (.tail _ (.tail _ (.head _)))))) (fun e he => (.tail _ (.tail _ (.tail _ (.tail _ (.tail _ (.tail _ (.tail _ (hin1' e he)))))))))).use (K := K02) ?B6q7 ?F6q7 ?X6q7 ?N6q7 ?T6q7 ?eH6q7 rfl ?hd6q7 ?hu6q7 ?_
                  case N6q7 => exact newsSub (by k_asm) (fun p hp => .tail _ (.tail _ hp))
                  case eH6q7 => exact ⟨by assumption, by assumption⟩
                  case B6q7 => k_asm
                  case F6q7 => k_asm
                  case X6q7 => k_asm
                  case T6q7 => k_asm
                  case hd6q7 => ktr_room
                  case hu6q7 => ktr_units
                  intro tb6 h6 tk6 F6 N6
                  (repeat' ((fail_if_success (first | (with_reducible show wpAny _ _ (call (Value.ref _) _) _ _ _) | (with_reducible show wpAny _ _ (pyIter _) _ _ _) | (with_reducible show UnrPost _ _ _ _ _ _ _ _ _) | (with_reducible show wpAny _ _ (exec (Stmt.Assign _ (PySem.Expr.ListComp _ _ _ _) _) _) _ _ _) | (with_reducible show wpAny _ _ (eval (PySem.Expr.ListComp _ _ _ _) _) _ _ _) | (with_reducible show wpAny _ _ (call (Value.type "zip") _) _ _ _) | (with_reducible show MEnd _ _ _ _ _ _ _ _ _ _ _ _ _) | (with_reducible show wpAny _ _ (exec (Stmt.For _ _ _ _ _) _) _ _ _) | (with_reducible show wpAny _ _ (exec (Stmt.While _ _ _ _) _) _ _ _) | (with_reducible show wpAny _ _ (eval (PySem.Expr.IfExp _ _ _ _) _) _ _ _) | (with_reducible show wpAny _ _ (compareOp .NotEq (Value.ref _) (Value.ref _)) _ _ _))); first | (k_unfold; (try dsimp only)) | (k_end; wrow_close) | (with_reducible refine my_ne_same ?_) | ((with_reducible show ite _ _ _); refine ite_neg (by decide +kernel) ?_) | ((with_reducible show wpAny _ _ (callWith _ (Value.ref _) _ _ _) _ _ _); (k_here; (k_dflt (refine' callWith_K ?k1q7 ?k2q7 ?_; (case k1q7 => k_asm); (case k2q7 => k_is); k_whole)))) | walk1 | (dsimp only; walk1) | (leave1; walk_say "STEP leave1"; try dsimp only)))
                  refine' (idm1W (w := w) (T0 := ext) (news := ext) (4 - 2 * (treC R ways).sg - (4 - 2 * (treC R other).sg)) 4 (sg_small treC_sg treC_sg) (by decide) (by decide) 4 rfl _ _ (fun q hq => Nat.ne_of_gt (Nat.lt_trans (by decide : 37 < 44) (hoff' q hq))) (fun q hq => Nat.ne_of_gt (hoff' q hq)) _ _ hT30 hT37 (fun p hp => hp)).use (K := K02) ?B7q7 ?F7q7 ?X7q7 ?N7q7 ?T7q7 ?eH7q7 rfl ?hd7q7 ?hu7q7 ?_
                  case N7q7 => exact newsSub (by k_asm) (FMC.all ⟨.tail _ (.head _), FMC.all ⟨.tail _ (.tail _ (.head _)), fun p hp => (.tail _ (.tail _ (.tail _ (.tail _ (.tail _ (.tail _ (.tail _ (hsE p hp))))))))⟩⟩)
                  case eH7q7 => exact ⟨by assumption, by assumption⟩
                  case B7q7 => k_asm
                  case F7q7 => k_asm
                  case X7q7 => k_asm
                  case T7q7 => k_asm
                  case hd7q7 => ktr_room
                  case hu7q7 => ktr_units
                  intro Dz v1 v2 oz44 oz51 extz hz44 hz51 _ _ _ hz9 tkz Fz Nz
                  rw [hb3] at Nz
                  dsimp only
                  (repeat' ((fail_if_success (first | (with_reducible show wpAny _ _ (compareOp .Eq (Value.int _ _) (Value.int _ _)) _ _ _) | (with_reducible show wpAny _ _ (subscriptTail _ _ (Value.ref _) (Value.int _ _)) _ _ _))); first | (k_unfold; (try dsimp only)) | walk1 | (dsimp only; walk1)))
                  refine item_tupleT (News.isTup Nz (.head _)) (by decide) (by decide) (seqIx1 _) rfl ?_
                  (repeat' ((fail_if_success (first | (with_reducible show wpAny _ _ (compareOp .Eq (Value.int _ _) (Value.int _ _)) _ _ _) | (with_reducible show wpAny _ _ (subscriptTail _ _ (Value.ref _) (Value.int _ _)) _ _ _))); first | (k_unfold; (try dsimp only)) | walk1 | (dsimp only; walk1)))
                  walk1
                  rw [show ((0 : Int) == 0) = true from rfl]
                  exact ⟨goodW_bool Fz (by assumption) (raisesW_false (by wrow_none_raised)) (law_post _), tab_grown hz51 Nz (.tail _ (.tail _ (.head _))), tab_grown hz44 Nz (.tail _ (.head _)), True.intro⟩
end Mine
end
theorem PySem.Challenge.cw_pg0168_02_holds : PySem.Challenge.rw_pg0168_02.Holds := by
  exact Mine.main
