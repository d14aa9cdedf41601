import PyProof.Rows.All
import Wide.All
import OpenK.AllK
import Wide.FinOn
import PySem.Challenge.RW_pg0168_03
set_option Elab.async false
section
open PySem PySem.W PyProof.Rows PySem.Calls PySem.Spec
namespace Mine
noncomputable abbrev Led := List (Addr × Obj)
structure FMC {α : Type} (P : α → Prop) (a : α) (l : List α) : Prop where
  here : P a
  rest : ∀ x ∈ l, P x
theorem FMC.all {α : Type} {P : α → Prop} {a : α} {l : List α} (h : FMC P a l) : ∀ x ∈ a :: l, P x := List.forall_mem_cons.mpr ⟨h.here, h.rest⟩
/-- what a def of the text does, told of any frame that calls it -/
noncomputable def CS (K : World → Frag) (prog : PySem.Program) (w : World) (H : Heap → Prop) (f : Addr) (dd uu : Nat) (news : Led) (vs : List Value) (R : Value → Led → Prop) : Prop :=
  ∀ (p : PySem.Program) (loose : List PySem.Str) (mean : ExcName → Option Value) (mg mb : PySem.Str → Option Value) (dp un : Nat) (gd : Option (List Code)) (cn : PySem.Str) (cs : Scope) (L a : Addr) (ccd : Value) (cl : List (PySem.Str × Addr)) (outer : List Env) (A₀ : Around) (base h₀ : Heap) (m : PySem.Str → Option Value) (s : Shared) (Q E : Value → Shared → Prop),
    Below A₀ base outer h₀ → Fr h₀ L s.heap m → (K w).In h₀ → News h₀ L s.heap news → Top p loose mean mg mb h₀ → H base → cs.kind = .function → dp + dd < recursionLimit → un + uu < cLine →
    (∀ v news' h' tk', Fr h₀ L h' m → News h₀ L h' news' → R v news' → Q v { s with heap := h', toks := tk' }) →
    wpAny (model prog w) (ktrTop dp un gd cn cs L a ccd cl outer) (call (.ref f) vs) Q E s
section
variable {K : World → Frag} {prog : PySem.Program} {w : World} {H : Heap → Prop} {f : Addr} {dd uu : Nat} {news : Led} {vs : List Value} {R : Value → Led → Prop}
theorem CS.use (C : CS K prog w H f dd uu news vs R) {p : PySem.Program} {loose : List PySem.Str} {mean : ExcName → Option Value} {mg mb : PySem.Str → Option Value} {dp un : Nat} {gd : Option (List Code)} {cn : PySem.Str} {cs : Scope} {L a : Addr} {ccd : Value} {cl : List (PySem.Str × Addr)} {outer : List Env} {A₀ : Around} {base h₀ : Heap} {m : PySem.Str → Option Value} {s : Shared} {Q E : Value → Shared → Prop}
    (B : Below A₀ base outer h₀) (F : Fr h₀ L s.heap m) (X : (K w).In h₀) (N : News h₀ L s.heap news) (T : Top p loose mean mg mb h₀) (hH : H base) (hk : cs.kind = .function) (hd : dp + dd < recursionLimit) (hu : un + uu < cLine)
    (h : ∀ v news' h' tk', Fr h₀ L h' m → News h₀ L h' news' → R v news' → Q v { s with heap := h', toks := tk' }) :
    wpAny (model prog w) (ktrTop dp un gd cn cs L a ccd cl outer) (call (.ref f) vs) Q E s := C _ _ _ _ _ _ _ _ _ _ _ _ _ _ _ _ _ _ _ _ _ _ B F X N T hH hk hd hu h
end
/-- the same, told to whoever goes on: nothing has to be taken apart there -/
noncomputable def CW (K : World → Frag) (prog : PySem.Program) (w : World) (H : Heap → Prop) (f : Addr) (dd uu : Nat) (news : Led) (vs : List Value) (W : (Value → Led → Prop) → Prop) : Prop :=
  ∀ (p : PySem.Program) (loose : List PySem.Str) (mean : ExcName → Option Value) (mg mb : PySem.Str → Option Value) (dp un : Nat) (gd : Option (List Code)) (cn : PySem.Str) (cs : Scope) (L a : Addr) (ccd : Value) (cl : List (PySem.Str × Addr)) (outer : List Env) (A₀ : Around) (base h₀ : Heap) (m : PySem.Str → Option Value) (s : Shared) (Q E : Value → Shared → Prop),
    Below A₀ base outer h₀ → Fr h₀ L s.heap m → (K w).In h₀ → News h₀ L s.heap news → Top p loose mean mg mb h₀ → H base → cs.kind = .function → dp + dd < recursionLimit → un + uu < cLine →
    (W fun v news' => ∀ h' tk', Fr h₀ L h' m → News h₀ L h' news' → Q v { s with heap := h', toks := tk' }) →
    wpAny (model prog w) (ktrTop dp un gd cn cs L a ccd cl outer) (call (.ref f) vs) Q E s
section
variable {K : World → Frag} {prog : PySem.Program} {w : World} {H : Heap → Prop} {f : Addr} {dd uu : Nat} {news : Led} {vs : List Value} {R : Value → Led → Prop} {W : (Value → Led → Prop) → Prop}
theorem CS.toW (C : CS K prog w H f dd uu news vs R) (hW : ∀ v nw (G : Value → Led → Prop), R v nw → W G → G v nw) : CW K prog w H f dd uu news vs W :=
  fun _ _ _ _ _ _ _ _ _ _ _ _ _ _ _ _ _ _ _ _ _ _ B F X N T hH hk hd hu h => C _ _ _ _ _ _ _ _ _ _ _ _ _ _ _ _ _ _ _ _ _ _ B F X N T hH hk hd hu fun v nw h' tk' F' N' r => hW v nw _ r h h' tk' F' N'
theorem CW.use (C : CW K prog w H f dd uu news vs W) {p : PySem.Program} {loose : List PySem.Str} {mean : ExcName → Option Value} {mg mb : PySem.Str → Option Value} {dp un : Nat} {gd : Option (List Code)} {cn : PySem.Str} {cs : Scope} {L a : Addr} {ccd : Value} {cl : List (PySem.Str × Addr)} {outer : List Env} {A₀ : Around} {base h₀ : Heap} {m : PySem.Str → Option Value} {s : Shared} {Q E : Value → Shared → Prop}
    (B : Below A₀ base outer h₀) (F : Fr h₀ L s.heap m) (X : (K w).In h₀) (N : News h₀ L s.heap news) (T : Top p loose mean mg mb h₀) (hH : H base) (hk : cs.kind = .function) (hd : dp + dd < recursionLimit) (hu : un + uu < cLine)
    (h : W fun v news' => ∀ h' tk', Fr h₀ L h' m → News h₀ L h' news' → Q v { s with heap := h', toks := tk' }) :
    wpAny (model prog w) (ktrTop dp un gd cn cs L a ccd cl outer) (call (.ref f) vs) Q E s := C _ _ _ _ _ _ _ _ _ _ _ _ _ _ _ _ _ _ _ _ _ _ B F X N T hH hk hd hu h
end
noncomputable abbrev tup (vs : List Value) : Obj := { cls := .type "tuple", data := .seq vs.toArray 0 }
theorem allLt_mem {d : Addr} : ∀ {l : Led}, AllLt d l → ∀ p ∈ l, p.1 < d
  | [], _, _, h => nomatch h
  | _ :: _, h, _, .head _ => h.1
  | _ :: _, h, q, .tail _ hq => allLt_mem h.2 q hq
theorem all_ne {c d : Nat} {l : Led} (h : AllLt d l) (hd : @LE.le Nat _ d c) : ∀ p ∈ l, p.1 ≠ c := fun p hp => Nat.ne_of_lt (Nat.lt_of_lt_of_le (allLt_mem h p hp) hd)
theorem all_lt {c d : Nat} {l : Led} (h : AllLt d l) (hd : @LE.le Nat _ d c) : ∀ p ∈ l, p.1 < c := fun p hp => Nat.lt_of_lt_of_le (allLt_mem h p hp) hd
theorem newsSub {h₀ h : Heap} {L : Addr} {S T : Led} (N : News h₀ L h S) (hs : ∀ p ∈ T, p ∈ S) : News h₀ L h T := fun p hp => N p (hs p hp)
/-- the table of a def's own defs: empty, or the one def's code is in it -/
noncomputable def TabIs (line col : Int) (nm : PySem.Str) (o : Obj) (news : Led) : Prop :=
  o = tabObj #[] ∨ ∃ c oc vs t, o = tabObj (#[] ++ #[rawInt line, rawInt col, .ref c]) ∧ (c, oc) ∈ news ∧ oc.data = .fields vs ∧ vs[1]? = some (.str nm t)
theorem TabIs.mono {line col : Int} {nm : PySem.Str} {o : Obj} {news news' : Led} (h : TabIs line col nm o news) (hs : ∀ p ∈ news, p ∈ news') : TabIs line col nm o news' := by
  rcases h with h | ⟨c, oc, vs, t, h1, h2, h3, h4⟩
  · exact .inl h
  · exact .inr ⟨c, oc, vs, t, h1, hs _ h2, h3, h4⟩
theorem rot1 {h₀ h : Heap} {L : Addr} {a b : Addr × Obj} {l : Led} (N : News h₀ L h (a :: b :: l)) : News h₀ L h (b :: a :: l) := fun p hp => N p (by
  rcases List.mem_cons.mp hp with rfl | hp
  · exact .tail _ (.head _)
  · rcases List.mem_cons.mp hp with rfl | hp
    · exact .head _
    · exact .tail _ (.tail _ hp))
noncomputable def hue : Nat → UInt64
  | 0 => 0x0 | 1 => 0x3FC5555555555555 | 2 => 0x3FD5555555555555 | 3 => 0x3FE0000000000000 | 4 => 0x3FE5555555555555 | _ => 0x3FEAAAAAAAAAAAAB
noncomputable abbrev f0 : UInt64 := 0
noncomputable abbrev f1 : UInt64 := 0x3FF0000000000000
/-- the corner of the colours' wheel, k sixths on -/
noncomputable def rgbOf : Nat → UInt64 × UInt64 × UInt64
  | 0 => (f1, f0, f0) | 1 => (f1, f1, f0) | 2 => (f0, f1, f0) | 3 => (f0, f1, f1) | 4 => (f0, f0, f1) | _ => (f1, f0, f1)
section
variable {prog : PySem.Program} {w : World} {A : Around} {E : Value → Shared → Prop} {s : Shared} {h₀ : Heap} {L : Addr} {m : PySem.Str → Option Value} {news : Led} {Q : Value → Shared → Prop}
theorem my_len {a : Addr} {vs : List Value} {n j : Nat} (N : News h₀ L s.heap news) (hm : (a, W.listOf vs.toArray n) ∈ news) (hl : vs.length = j) (hj : j < 2 ^ 62) (h : ∀ t, Q (.int (j : Int) t) { s with toks := s.toks + 1 + 1 }) :
    wpAny (model prog w) A (call (.builtin "len") [.ref a]) Q E s := by
  refine len_list (items := vs.toArray) ⟨_, (N _ hm).1, rfl, n, rfl⟩ (by rw [List.size_toArray]; omega) ?_
  rw [List.size_toArray, hl]
  exact h _
end
end Mine
end
section
open PySem PySem.W PyProof.Rows PySem.Calls PySem.Spec
namespace Mine
/-- k figures to the base B, lowest first; the last one takes what is left -/
noncomputable def digs (B : Nat) : Nat → Nat → List Int
  | 0, _ => []
  | 1, x => [(x : Int)]
  | k + 2, x => ((x % B : Nat) : Int) :: digs B (k + 1) (x / B)
theorem digs_length (B : Nat) : ∀ k x, (digs B k x).length = k
  | 0, _ => rfl
  | 1, _ => rfl
  | k + 2, x => by rw [digs, List.length_cons, digs_length B (k + 1)]
theorem digs_split (B : Nat) {k2 : Nat} (h2 : 0 < k2) : ∀ (k1 x : Nat), 0 < k1 → digs B (k1 + k2) x = digs B k1 (x % B ^ k1) ++ digs B k2 (x / B ^ k1)
  | 1, x, _ => by
    obtain ⟨j, rfl⟩ : ∃ j, k2 = j + 1 := ⟨k2 - 1, by omega⟩
    rw [show 1 + (j + 1) = j + 2 by omega, digs, digs, Nat.pow_one]
    rfl
  | k1 + 2, x, _ => by
    obtain ⟨j, rfl⟩ : ∃ j, k2 = j + 1 := ⟨k2 - 1, by omega⟩
    have e : k1 + 2 + (j + 1) = (k1 + 1 + j) + 2 := by omega
    have e' : k1 + 1 + j + 1 = k1 + 1 + (j + 1) := by omega
    rw [e, digs, e', digs_split B h2 (k1 + 1) (x / B) (by omega), digs]
    have m1 : x % B ^ (k1 + 2) % B = x % B := Nat.mod_mod_of_dvd x (by rw [Nat.pow_succ]; exact Nat.dvd_mul_left _ _)
    have m2 : x % B ^ (k1 + 2) / B = x / B % B ^ (k1 + 1) := by
      rw [Nat.pow_succ B (k1 + 1), Nat.mul_comm, Nat.mod_mul_right_div_self]
    have m3 : x / B ^ (k1 + 2) = x / B / B ^ (k1 + 1) := by
      rw [Nat.pow_succ B (k1 + 1), Nat.mul_comm, Nat.div_div_eq_div_mul]
    rw [m1, m2, m3]
    rfl
theorem land_high (x s : Nat) : x &&& (x / 2 ^ s * 2 ^ s) = x / 2 ^ s * 2 ^ s := by
  have e : x / 2 ^ s * 2 ^ s = (x >>> s) <<< s := by rw [Nat.shiftRight_eq_div_pow, Nat.shiftLeft_eq]
  rw [e]
  apply Nat.eq_of_testBit_eq
  intro i
  rw [Nat.testBit_and, Nat.testBit_shiftLeft, Nat.testBit_shiftRight]
  by_cases h : s ≤ i
  · rw [show s + (i - s) = i by omega]; cases x.testBit i <;> simp
  · simp [h]
theorem xor_low (x s : Nat) : Builtin.bitXor (x : Int) (((x : Int).fdiv (2 ^ s)) * 2 ^ s) = ((x % 2 ^ s : Nat) : Int) := by
  have e : ((x : Int).fdiv (2 ^ s)) * 2 ^ s = ((x / 2 ^ s * 2 ^ s : Nat) : Int) := by
    have : ((2 : Int) ^ s) = ((2 ^ s : Nat) : Int) := by norm_cast
    rw [this, ← Int.ofNat_fdiv]; norm_cast
  rw [e, bitXor_and, bitAnd_pp (by omega) (by omega)]
  simp only [Int.toNat_natCast]
  rw [land_high]
  have := Nat.div_add_mod x (2 ^ s)
  rw [Nat.mul_comm] at this
  generalize x / 2 ^ s * 2 ^ s = z at *
  omega
theorem fdiv_pow (x s : Nat) : (x : Int).fdiv (2 ^ s) = ((x / 2 ^ s : Nat) : Int) := by
  have : ((2 : Int) ^ s) = ((2 ^ s : Nat) : Int) := by norm_cast
  rw [this, ← Int.ofNat_fdiv]
/-- a list, new items laid into it -/
noncomputable def putAt (ds : List Int) (lo : Nat) (new : List Int) : List Int := ds.take lo ++ new ++ ds.drop (lo + new.length)
theorem putAt_one (ds : List Int) (lo : Nat) (x : Int) (h : lo < ds.length) : ds.set lo x = putAt ds lo [x] := by
  unfold putAt
  rw [List.set_eq_take_append_cons_drop, if_pos h]
  simp
theorem putAt_length (ds : List Int) (lo : Nat) (new : List Int) (h : lo + new.length ≤ ds.length) : (putAt ds lo new).length = ds.length := by
  unfold putAt
  simp only [List.length_append, List.length_take, List.length_drop]
  omega
theorem putAt_two (ds : List Int) (lo : Nat) (p q : List Int) (h : lo + p.length + q.length ≤ ds.length) : putAt (putAt ds lo p) (lo + p.length) q = putAt ds lo (p ++ q) := by
  unfold putAt
  have h1 : (ds.take lo ++ p).length = lo + p.length := by simp; omega
  rw [List.take_append_of_le_length (by omega), List.take_of_length_le (by omega), List.drop_append]
  rw [show (ds.take lo ++ p).drop (lo + p.length + q.length) = [] from List.drop_eq_nil_of_le (by omega)]
  simp only [List.nil_append, List.drop_drop, List.append_assoc, List.length_append]
  congr 4
  simp; omega
theorem putAt_whole (ds new : List Int) (h : new.length = ds.length) : putAt ds 0 new = new := by
  unfold putAt
  simp [h]
theorem fdiv2 (a : Nat) : ((a : Int)).fdiv (2 ^ (1 : Int).toNat) = ((a / 2 : Nat) : Int) := fdiv_pow a 1
theorem mulok {a b : Int} (h : a.natAbs < 2 ^ 64) : IntMulOk a b := IntMulOk.of_left (intBits_le_iff.mpr h)
section
variable {prog : PySem.Program} {w : World} {A : Around} {E : Value → Shared → Prop} {s : Shared} {Q : Value → Shared → Prop} {t u : Tok}
theorem r_mid {lo k : Nat} (h : Q (.int ((lo + k / 2 : Nat) : Int) s.toks) { s with toks := s.toks + 1 }) :
    wpAny (model prog w) A (binaryOp .RShift (.int ((lo : Int) + ((lo + k : Nat) : Int)) t) (.int 1 u)) Q E s := by
  refine rshift_int (by decide) ?_
  have e : ((lo : Int) + ((lo + k : Nat) : Int)).fdiv (2 ^ (1 : Int).toNat) = ((lo + k / 2 : Nat) : Int) := by
    have : ((lo : Int) + ((lo + k : Nat) : Int)) = ((lo + (lo + k) : Nat) : Int) := by omega
    rw [this, fdiv2]
    congr 1
    omega
  rw [e]; exact h
theorem r_shift {lo k n : Nat} (hk : k ≤ 300) (h : Q (.int ((k * n : Nat) : Int) s.toks) { s with toks := s.toks + 1 }) :
    wpAny (model prog w) A (binaryOp .Mult (.int (((lo + k : Nat) : Int) - (lo : Int)) t) (.int (n : Int) u)) Q E s := by
  refine mul_int ?_ (mulok (by omega))
  have e : (((lo + k : Nat) : Int) - (lo : Int)) = (k : Int) := by omega
  rw [e]; exact h
theorem r_upper {x e : Nat} (h : Q (.int ((x / 2 ^ e : Nat) : Int) s.toks) { s with toks := s.toks + 1 }) :
    wpAny (model prog w) A (binaryOp .RShift (.int (x : Int) t) (.int (e : Int) u)) Q E s := by
  refine rshift_int (by omega) ?_
  rw [Int.toNat_natCast, fdiv_pow]; exact h
theorem r_shl {x e : Nat} (hx : x < 2 ^ 80) (he : e ≤ 100000) (h : Q (.int ((x * 2 ^ e : Nat) : Int) s.toks) { s with toks := s.toks + 1 }) :
    wpAny (model prog w) A (binaryOp .LShift (.int (x : Int) t) (.int (e : Int) u)) Q E s := by
  refine lshift_int (by omega) ?_ ?_
  · have h1 : Builtin.Int.intBits (x : Int) ≤ 80 := intBits_le_iff.mpr (by omega)
    omega
  · rw [Int.toNat_natCast]
    have : ((x : Int) * 2 ^ e) = ((x * 2 ^ e : Nat) : Int) := by norm_cast
    rw [this]; exact h
theorem r_xor {x e : Nat} (h : Q (.int ((x % 2 ^ e : Nat) : Int) s.toks) { s with toks := s.toks + 1 }) :
    wpAny (model prog w) A (binaryOp .BitXor (.int (x : Int) t) (.int ((x / 2 ^ e * 2 ^ e : Nat) : Int) u)) Q E s := by
  refine xor_int ?_
  have e1 : ((x / 2 ^ e * 2 ^ e : Nat) : Int) = ((x : Int).fdiv (2 ^ e)) * 2 ^ e := by
    rw [fdiv_pow]; norm_cast
  rw [e1, xor_low]; exact h
end
theorem e_ok {a n : Nat} (ha : a ≤ 300) (hn : n < 100) : a * n ≤ 100000 := Nat.le_trans (Nat.mul_le_mul ha (Nat.le_of_lt hn)) (by decide)
theorem put_done (ds : List Int) (lo n k x : Nat) (hk : 2 ≤ k) (h : lo + k ≤ ds.length) :
    putAt (putAt ds lo (digs (2 ^ n) (k / 2) (x % 2 ^ (k / 2 * n)))) (lo + k / 2) (digs (2 ^ n) (k - k / 2) (x / 2 ^ (k / 2 * n))) = putAt ds lo (digs (2 ^ n) k x) := by
  have l1 := digs_length (2 ^ n) (k / 2) (x % 2 ^ (k / 2 * n))
  have l2 := digs_length (2 ^ n) (k - k / 2) (x / 2 ^ (k / 2 * n))
  have e := putAt_two ds lo (digs (2 ^ n) (k / 2) (x % 2 ^ (k / 2 * n))) (digs (2 ^ n) (k - k / 2) (x / 2 ^ (k / 2 * n))) (by omega)
  rw [l1] at e
  rw [e]
  have hp : (2 ^ n) ^ (k / 2) = 2 ^ (k / 2 * n) := by rw [← Nat.pow_mul, Nat.mul_comm]
  have q := digs_split (2 ^ n) (k2 := k - k / 2) (by omega) (k / 2) x (by omega)
  rw [show k / 2 + (k - k / 2) = k by omega, hp] at q
  rw [q]
theorem bits_pos {x n k : Nat} (hn : 0 < n) (hx : x ≠ 0) (hk : ((Builtin.Int.intBits x : Int) + n - 1).fdiv n = (k : Int)) : 0 < k := by
  have h1 : 0 < Builtin.Int.intBits (x : Int) := by
    rcases Nat.eq_zero_or_pos (Builtin.Int.intBits (x : Int)) with h | h
    · have := (intBits_le_iff (m := 0) (x := (x : Int))).mp (by omega)
      simp at this; omega
    · exact h
  have e : ((Builtin.Int.intBits x : Int) + n - 1) = ((Builtin.Int.intBits x + n - 1 : Nat) : Int) := by omega
  rw [e, ← Int.ofNat_fdiv] at hk
  have h2 : (Builtin.Int.intBits x + n - 1) / n = k := by exact_mod_cast hk
  have h3 : 1 ≤ (Builtin.Int.intBits x + n - 1) / n := (Nat.le_div_iff_mul_le hn).mpr (by omega)
  omega
theorem bits_zero {x n k : Nat} (hn : 0 < n) (hx : x = 0) (hk : ((Builtin.Int.intBits x : Int) + n - 1).fdiv n = (k : Int)) : k = 0 := by
  subst hx
  have e0 : Builtin.Int.intBits ((0 : Nat) : Int) = 0 := rfl
  have e : ((Builtin.Int.intBits ((0 : Nat) : Int) : Int) + n - 1) = ((n - 1 : Nat) : Int) := by rw [e0]; omega
  rw [e, ← Int.ofNat_fdiv] at hk
  have h2 : (n - 1) / n = k := by exact_mod_cast hk
  rw [← h2]; exact Nat.div_eq_of_lt (by omega)
theorem flat_len {z : Int} {l : List Int} {n1 k : Nat} (e1 : l.length = n1) (e3 : 0 ≤ z → (n1 : Int) = ((0 + 1 : Nat) : Int) * z) (hk : z = (k : Int)) : l.length = k := by
  have := e3 (by omega)
  omega
theorem flat_nil {vs : List Value} {l : List Int} {B x : Nat} (h : IntsAre vs l) (hk : l.length = 0) : IntsAre vs (digs B 0 x) := by
  cases l with
  | nil => exact h
  | cons _ _ => simp at hk
theorem div_le_80 {x e : Nat} (hx : x < 2 ^ 80) : x / 2 ^ e < 2 ^ 80 := Nat.lt_of_le_of_lt (Nat.div_le_self _ _) hx
theorem mod_le_80 {x e : Nat} (hx : x < 2 ^ 80) : x % 2 ^ e < 2 ^ 80 := Nat.lt_of_le_of_lt (Nat.mod_le _ _) hx
noncomputable def InnerOk (K : World → Frag) (prog : PySem.Program) (w : World) (p : PySem.Program) (loose : List PySem.Str) (mean : ExcName → Option Value) (mg mb : PySem.Str → Option Value) (f D : Addr) (fx : Led) (B k : Nat) : Prop :=
  ∀ (x lo : Nat) (vs : List Value) (ds : List Int) (t1 t2 t3 : Tok) (dp un : Nat) (gd : Option (List Code)) (cn : PySem.Str) (cs : Scope) (L a : Addr) (ccd : Value) (cl : List (PySem.Str × Addr)) (outer : List Env) (A₀ : Around) (base h₀ : Heap) (m : PySem.Str → Option Value) (s : Shared) (Q E : Value → Shared → Prop),
    x < 2 ^ 80 → IntsAre vs ds → lo + k ≤ ds.length → ds.length < 200 → Below A₀ base outer h₀ → Fr h₀ L s.heap m → (K w).In h₀ → News h₀ L s.heap ((D, W.listOf vs.toArray 0) :: fx) → Top p loose mean mg mb h₀ → cs.kind = .function → dp + k < recursionLimit → un + 8 * k < cLine →
    (∀ vs' h' tk', IntsAre vs' (putAt ds lo (digs B k x)) → Fr h₀ L h' m → News h₀ L h' ((D, W.listOf vs'.toArray 0) :: fx) → Q .none { s with heap := h', toks := tk' }) →
    wpAny (model prog w) (ktrTop dp un gd cn cs L a ccd cl outer) (call (.ref f) [.int x t1, .int lo t2, .int ((lo + k : Nat) : Int) t3]) Q E s
section
variable {K : World → Frag} {prog : PySem.Program} {w : World} {p : PySem.Program} {loose : List PySem.Str} {mean : ExcName → Option Value} {mg mb : PySem.Str → Option Value} {f D : Addr} {fx : Led} {B k : Nat}
theorem InnerOk.use (C : InnerOk K prog w p loose mean mg mb f D fx B k) {X Lo Hi : Int} {x lo : Nat} {vs : List Value} {ds : List Int} {t1 t2 t3 : Tok} {dp un : Nat} {gd : Option (List Code)} {cn : PySem.Str} {cs : Scope} {L a : Addr} {ccd : Value} {cl : List (PySem.Str × Addr)} {outer : List Env} {A₀ : Around} {base h₀ : Heap} {m : PySem.Str → Option Value} {s : Shared} {Q E : Value → Shared → Prop}
    (eX : X = (x : Int)) (eL : Lo = (lo : Int)) (eH : Hi = ((lo + k : Nat) : Int)) (hx : x < 2 ^ 80) (hv : IntsAre vs ds) (hk : lo + k ≤ ds.length) (hl : ds.length < 200) (hB : Below A₀ base outer h₀) (F : Fr h₀ L s.heap m) (hX : (K w).In h₀) (N : News h₀ L s.heap ((D, W.listOf vs.toArray 0) :: fx)) (T : Top p loose mean mg mb h₀) (hc : cs.kind = .function) (hd : dp + k < recursionLimit) (hu : un + 8 * k < cLine)
    (h : ∀ vs' h' tk', IntsAre vs' (putAt ds lo (digs B k x)) → Fr h₀ L h' m → News h₀ L h' ((D, W.listOf vs'.toArray 0) :: fx) → Q .none { s with heap := h', toks := tk' }) :
    wpAny (model prog w) (ktrTop dp un gd cn cs L a ccd cl outer) (call (.ref f) [.int X t1, .int Lo t2, .int Hi t3]) Q E s := by
  subst eX; subst eL; subst eH
  exact C _ _ _ _ _ _ _ _ _ _ _ _ _ _ _ _ _ _ _ _ _ _ _ _ hx hv hk hl hB F hX N T hc hd hu h
theorem innerOk_all (step : ∀ k, 0 < k → (∀ j, 0 < j → j < k → InnerOk K prog w p loose mean mg mb f D fx B j) → InnerOk K prog w p loose mean mg mb f D fx B k) : ∀ k, 0 < k → InnerOk K prog w p loose mean mg mb f D fx B k := by
  intro k
  induction k using Nat.strongRecOn with
  | ind k ih => exact fun hk => step k hk fun j hj hjk => ih j hjk hj
end
/-- figures put together -/
noncomputable def valN (B : Nat) : List Nat → Nat
  | [] => 0
  | d :: r => d + B * valN B r
theorem valN_append (B : Nat) : ∀ p q : List Nat, valN B (p ++ q) = valN B p + B ^ p.length * valN B q
  | [], q => by simp [valN]
  | d :: p, q => by
    rw [List.cons_append, valN, valN, valN_append B p q, List.length_cons, Nat.pow_succ, Nat.mul_add, Nat.add_assoc, ← Nat.mul_assoc, Nat.mul_comm (B ^ p.length) B]
theorem valN_lt (B : Nat) (hB : 0 < B) : ∀ p : List Nat, (∀ d ∈ p, d < B) → valN B p < B ^ p.length
  | [], _ => by simp [valN]
  | d :: p, h => by
    have h1 := h d (.head _)
    have h2 := valN_lt B hB p fun x hx => h x (.tail _ hx)
    rw [valN, List.length_cons, Nat.pow_succ]
    have h3 : B * (valN B p + 1) ≤ B * B ^ p.length := Nat.mul_le_mul_left B h2
    rw [Nat.mul_add, Nat.mul_one] at h3
    rw [Nat.mul_comm _ B]
    omega
noncomputable abbrev castL (ds : List Nat) : List Int := ds.map fun (x : Nat) => (x : Int)
noncomputable def D2Ok (K : World → Frag) (prog : PySem.Program) (w : World) (p : PySem.Program) (loose : List PySem.Str) (mean : ExcName → Option Value) (mg mb : PySem.Str → Option Value) (f : Addr) (fx : Led) (B : Nat) (ds : List Nat) (k : Nat) : Prop :=
  ∀ (lo : Nat) (t2 t3 : Tok) (dp un : Nat) (gd : Option (List Code)) (cn : PySem.Str) (cs : Scope) (L a : Addr) (ccd : Value) (cl : List (PySem.Str × Addr)) (outer : List Env) (A₀ : Around) (base h₀ : Heap) (m : PySem.Str → Option Value) (s : Shared) (Q E : Value → Shared → Prop),
    lo + k ≤ ds.length → Below A₀ base outer h₀ → Fr h₀ L s.heap m → (K w).In h₀ → News h₀ L s.heap fx → Top p loose mean mg mb h₀ → cs.kind = .function → dp + k < recursionLimit → un + 8 * k < cLine →
    (∀ t h' tk', Fr h₀ L h' m → News h₀ L h' fx → Q (.int ((valN B ((ds.drop lo).take k) : Nat) : Int) t) { s with heap := h', toks := tk' }) →
    wpAny (model prog w) (ktrTop dp un gd cn cs L a ccd cl outer) (call (.ref f) [.int lo t2, .int ((lo + k : Nat) : Int) t3]) Q E s
section
variable {K : World → Frag} {prog : PySem.Program} {w : World} {p : PySem.Program} {loose : List PySem.Str} {mean : ExcName → Option Value} {mg mb : PySem.Str → Option Value} {f : Addr} {fx : Led} {B k : Nat} {ds : List Nat}
theorem D2Ok.use (C : D2Ok K prog w p loose mean mg mb f fx B ds k) {Lo Hi : Int} {lo : Nat} {t2 t3 : Tok} {dp un : Nat} {gd : Option (List Code)} {cn : PySem.Str} {cs : Scope} {L a : Addr} {ccd : Value} {cl : List (PySem.Str × Addr)} {outer : List Env} {A₀ : Around} {base h₀ : Heap} {m : PySem.Str → Option Value} {s : Shared} {Q E : Value → Shared → Prop}
    (eL : Lo = (lo : Int)) (eH : Hi = ((lo + k : Nat) : Int)) (hk : lo + k ≤ ds.length) (hB : Below A₀ base outer h₀) (F : Fr h₀ L s.heap m) (hX : (K w).In h₀) (N : News h₀ L s.heap fx) (T : Top p loose mean mg mb h₀) (hc : cs.kind = .function) (hd : dp + k < recursionLimit) (hu : un + 8 * k < cLine)
    (h : ∀ t h' tk', Fr h₀ L h' m → News h₀ L h' fx → Q (.int ((valN B ((ds.drop lo).take k) : Nat) : Int) t) { s with heap := h', toks := tk' }) :
    wpAny (model prog w) (ktrTop dp un gd cn cs L a ccd cl outer) (call (.ref f) [.int Lo t2, .int Hi t3]) Q E s := by
  subst eL; subst eH
  exact C _ _ _ _ _ _ _ _ _ _ _ _ _ _ _ _ _ _ _ _ hk hB F hX N T hc hd hu h
theorem D2Ok.all (step : ∀ k, 0 < k → (∀ j, 0 < j → j < k → D2Ok K prog w p loose mean mg mb f fx B ds j) → D2Ok K prog w p loose mean mg mb f fx B ds k) : ∀ k, 0 < k → D2Ok K prog w p loose mean mg mb f fx B ds k := by
  intro k
  induction k using Nat.strongRecOn with
  | ind k ih => exact fun hk => step k hk fun j hj hjk => ih j hjk hj
end
theorem d2_one {ds : List Nat} {lo B : Nat} (h : lo + 1 ≤ ds.length) : (castL ds).getD (Int.toNat (lo : Int)) 0 = ((valN B ((ds.drop lo).take 1) : Nat) : Int) := by
  rw [Int.toNat_natCast]
  have h1 : ds.drop lo = ds[lo] :: ds.drop (lo + 1) := List.drop_eq_getElem_cons (by omega)
  have h2 : (ds.drop lo).take 1 = [ds[lo]] := by rw [h1]; rfl
  have h3 : (castL ds)[lo]? = some ((ds[lo] : Nat) : Int) := by
    rw [List.getElem?_map, List.getElem?_eq_getElem (by omega)]; rfl
  rw [h2, List.getD_eq_getElem?_getD, h3]
  simp [valN]
theorem d2_two {ds : List Nat} {lo n k : Nat} (hk : 2 ≤ k) (h : lo + k ≤ ds.length) :
    ((valN (2 ^ n) ((ds.drop (lo + k / 2)).take (k - k / 2)) * 2 ^ (k / 2 * n) : Nat) : Int) + ((valN (2 ^ n) ((ds.drop lo).take (k / 2)) : Nat) : Int) = ((valN (2 ^ n) ((ds.drop lo).take k) : Nat) : Int) := by
  have e : (ds.drop lo).take k = (ds.drop lo).take (k / 2) ++ (ds.drop (lo + k / 2)).take (k - k / 2) := by
    have := List.take_append_drop (k / 2) ((ds.drop lo).take k)
    rw [List.take_take, List.drop_take, List.drop_drop, Nat.min_eq_left (by omega)] at this
    exact this.symm
  rw [e, valN_append, List.length_take, List.length_drop, Nat.min_eq_left (by omega), ← Nat.pow_mul, Nat.mul_comm n (k / 2), Nat.mul_comm]
  omega
theorem d2_lt {ds : List Nat} {lo n k : Nat} (hd : ∀ d ∈ ds, d < 2 ^ n) (h80 : n * ds.length ≤ 80) : valN (2 ^ n) ((ds.drop lo).take k) < 2 ^ 80 := by
  refine Nat.lt_of_lt_of_le (valN_lt _ (Nat.two_pow_pos n) _ fun d h => hd d (List.mem_of_mem_drop (List.mem_of_mem_take h))) ?_
  rw [← Nat.pow_mul]
  refine Nat.pow_le_pow_right (by decide) (Nat.le_trans (Nat.mul_le_mul_left n ?_) h80)
  rw [List.length_take, List.length_drop]
  omega
theorem d2_all (ds : List Nat) : (ds.drop 0).take ds.length = ds := by simp
/-- the half, as a name -/
noncomputable def hf (k : Nat) : Nat := k / 2
theorem hf_le (k : Nat) : hf k ≤ k := Nat.div_le_self k 2
theorem hf_pos {k : Nat} (h : 2 ≤ k) : 0 < hf k ∧ hf k < k ∧ 0 < k - hf k ∧ k - hf k < k := by unfold hf; omega
theorem hf_split {lo k : Nat} : lo + k = lo + hf k + (k - hf k) := by have := hf_le k; omega
theorem two_of {lo k : Nat} (h0 : 0 < k) (h : ¬ ((lo : Int) + 1 = ((lo + k : Nat) : Int))) : 2 ≤ k := by omega
theorem room_h {dp k j C : Nat} (h : dp + k < C) (hj : j < k) : dp + 1 + j < C := by omega
theorem unit_h {un k j C : Nat} (h : un + 8 * k < C) (hj : j < k) : un + 3 + 8 * j < C := by omega
section
variable {prog : PySem.Program} {w : World} {A : Around} {E : Value → Shared → Prop} {s : Shared} {Q : Value → Shared → Prop} {t u : Tok}
theorem r_midh {lo k : Nat} (h : Q (.int ((lo + hf k : Nat) : Int) s.toks) { s with toks := s.toks + 1 }) :
    wpAny (model prog w) A (binaryOp .RShift (.int ((lo : Int) + ((lo + k : Nat) : Int)) t) (.int 1 u)) Q E s := r_mid h
end
theorem put_doneh (ds : List Int) (lo n k x : Nat) (hk : 2 ≤ k) (h : lo + k ≤ ds.length) :
    putAt (putAt ds lo (digs (2 ^ n) (hf k) (x % 2 ^ (hf k * n)))) (lo + hf k) (digs (2 ^ n) (k - hf k) (x / 2 ^ (hf k * n))) = putAt ds lo (digs (2 ^ n) k x) := put_done ds lo n k x hk h
theorem d2_twoh {ds : List Nat} {lo n k : Nat} (hk : 2 ≤ k) (h : lo + k ≤ ds.length) :
    ((valN (2 ^ n) ((ds.drop (lo + hf k)).take (k - hf k)) * 2 ^ (hf k * n) : Nat) : Int) + ((valN (2 ^ n) ((ds.drop lo).take (hf k)) : Nat) : Int) = ((valN (2 ^ n) ((ds.drop lo).take k) : Nat) : Int) := d2_two hk h
theorem hf_300 {lo k l : Nat} (h : lo + k ≤ l) (hl : l < 200) : hf k ≤ 300 := by have := hf_le k; omega
end Mine
end
section
open PySem PySem.W PyProof.Rows PySem.Calls PySem.Spec
namespace Mine
section
variable {prog : PySem.Program} {w : World} {A : Around} {E : Value → Shared → Prop} {s : Shared} {env : Env} {h₀ : Heap} {x : PySem.Str} {body : List Stmt} {Q : Flow → Shared → Prop}
theorem unr_mono {L : Addr} {s₁ s₂ : Shared} {I : Addr} {it : Obj} {R R' : (PySem.Str → Option Value) → Led → Prop} {f : Flow} (hr : ∀ m n, R m n → R' m n) (h : UnrPost h₀ L s₁ I it R Q f s₂) : UnrPost h₀ L s₁ I it R' Q f s₂ := by
  have go : UnrEnd h₀ L s₁ I it R s₂ → UnrEnd h₀ L s₁ I it R' s₂ := fun ⟨h', tk, m', n', e, F, N, o, r⟩ => ⟨h', tk, m', n', e, F, N, o, hr _ _ r⟩
  cases f with
  | ret v => exact h
  | brk => exact h
  | next => exact go h
  | cont => exact go h
theorem RevInd {I : Addr} {lp : Addr × Obj} (P : List Value → (PySem.Str → Option Value) → Led → Prop)
    (turn : ∀ v us m nw, P (v :: us) m nw → ∀ (it : Obj) h tk, it.cls = .type "list_reverseiterator" → Fr h₀ env.locals h (fun y => if y = x then some v else m y) → News h₀ env.locals h ((I, it) :: nw) →
      wpAny (model prog w) A (execs body env) (UnrPost h₀ env.locals { s with heap := h, toks := tk } I it (fun m' n' => lp ∈ n' ∧ P us m' n') Q) E { s with heap := h, toks := tk })
    (done : ∀ m nw, P [] m nw → ∀ h tk, Fr h₀ env.locals h m → News h₀ env.locals h nw → Q .next { s with heap := h, toks := tk }) :
    ∀ us m nw, P us m nw → RevRest prog w A E h₀ env x body Q s I lp us m nw
  | [], m, nw, h => RevRest.zero (done m nw h)
  | v :: us, m, nw, h => RevRest.succ fun it hp tk hc F N => wpAny_mono (turn v us m nw h it hp tk hc F N) (fun _ _ p => unr_mono (fun _ _ r => ⟨r.1, RevInd P turn done us _ _ r.2⟩) p) fun _ _ e => e
theorem RangeInd {I : Addr} {a : Int} {n : Nat} (P : Nat → Nat → (PySem.Str → Option Value) → Led → Prop)
    (turn : ∀ k i m nw, P (k + 1) i m nw → ∀ (t : Tok) (it : Obj) h tk, Fr h₀ env.locals h (fun y => if y = x then some (.int (a + (i : Int)) t) else m y) → News h₀ env.locals h ((I, it) :: nw) →
      wpAny (model prog w) A (execs body env) (UnrPost h₀ env.locals { s with heap := h, toks := tk } I it (fun m' n' => P k (i + 1) m' n') Q) E { s with heap := h, toks := tk })
    (done : ∀ i m nw, P 0 i m nw → ∀ h tk, Fr h₀ env.locals h m → News h₀ env.locals h nw → Q .next { s with heap := h, toks := tk }) :
    ∀ k i m nw, P k i m nw → RangeRest prog w A E h₀ env x body Q s I a n k i m nw
  | 0, i, m, nw, h => RangeRest.zero (done i m nw h)
  | k + 1, i, m, nw, h => RangeRest.succ fun t hp tk F N => wpAny_mono (turn k i m nw h t _ hp tk F N) (fun _ _ p => unr_mono (fun _ _ r => RangeInd P turn done k (i + 1) _ _ r) p) fun _ _ e => e
end
/-! the same loops, what comes behind told by a name alone -/
section
variable {prog : PySem.Program} {w : World} {A : Around} {E : Value → Shared → Prop} {s : Shared} {env : Env} {h₀ : Heap} {x : PySem.Str} {body : List Stmt} {Q : Flow → Shared → Prop}
theorem RevIndQ {I : Addr} {lp : Addr × Obj} (P : List Value → (PySem.Str → Option Value) → Led → Prop)
    (turn : ∀ v us m nw, P (v :: us) m nw → ∀ (it : Obj) h tk (Q' : Flow → Shared → Prop) (E' : Value → Shared → Prop), (∀ {h' tk' m' all}, Fr h₀ env.locals h' m' → News h₀ env.locals h' all → ∀ nw', (∀ p ∈ (I, it) :: nw', p ∈ all) → (∀ p ∈ nw', p.1 ≠ I) → (lp ∈ nw' ∧ P us m' nw') → Q' .next { s with heap := h', toks := tk' }) → it.cls = .type "list_reverseiterator" → Fr h₀ env.locals h (fun y => if y = x then some v else m y) → News h₀ env.locals h ((I, it) :: nw) →
      wpAny (model prog w) A (execs body env) Q' E' { s with heap := h, toks := tk })
    (done : ∀ m nw, P [] m nw → ∀ h tk, Fr h₀ env.locals h m → News h₀ env.locals h nw → Q .next { s with heap := h, toks := tk }) :
    ∀ us m nw, P us m nw → RevRest prog w A E h₀ env x body Q s I lp us m nw :=
  RevInd P (fun v us m nw h it hp tk hc F N => wpAny_mono (turn v us m nw h it hp tk (UnrPost h₀ env.locals { s with heap := hp, toks := tk } I it (fun m' n' => lp ∈ n' ∧ P us m' n') Q) E (fun F' N' nw' sub off r => UnrEnd.intro (s₁ := { s with heap := hp, toks := tk }) F' N' nw' sub off r) hc F N) (fun _ _ p => p) fun _ _ e => e) done
theorem RangeIndQ {I : Addr} {a : Int} {n : Nat} (P : Nat → Nat → (PySem.Str → Option Value) → Led → Prop)
    (turn : ∀ k i m nw, P (k + 1) i m nw → ∀ (t : Tok) (it : Obj) h tk (Q' : Flow → Shared → Prop) (E' : Value → Shared → Prop), (∀ {h' tk' m' all}, Fr h₀ env.locals h' m' → News h₀ env.locals h' all → ∀ nw', (∀ p ∈ (I, it) :: nw', p ∈ all) → (∀ p ∈ nw', p.1 ≠ I) → P k (i + 1) m' nw' → Q' .next { s with heap := h', toks := tk' }) → Fr h₀ env.locals h (fun y => if y = x then some (.int (a + (i : Int)) t) else m y) → News h₀ env.locals h ((I, it) :: nw) →
      wpAny (model prog w) A (execs body env) Q' E' { s with heap := h, toks := tk })
    (done : ∀ i m nw, P 0 i m nw → ∀ h tk, Fr h₀ env.locals h m → News h₀ env.locals h nw → Q .next { s with heap := h, toks := tk }) :
    ∀ k i m nw, P k i m nw → RangeRest prog w A E h₀ env x body Q s I a n k i m nw :=
  RangeInd P (fun k i m nw h u it hp tk F N => wpAny_mono (turn k i m nw h u it hp tk (UnrPost h₀ env.locals { s with heap := hp, toks := tk } I it (fun m' n' => P k (i + 1) m' n') Q) E (fun F' N' nw' sub off r => UnrEnd.intro (s₁ := { s with heap := hp, toks := tk }) F' N' nw' sub off r) F N) (fun _ _ p => p) fun _ _ e => e) done
end
theorem ledA {ext news : Led} {a b c : Addr × Obj} : ∀ p ∈ a :: b :: c :: (ext ++ news), p ∈ a :: b :: (ext ++ c :: news) := by
  intro p hp
  simp only [List.mem_cons, List.mem_append] at hp ⊢
  grind
theorem offI_of {I : Addr} {it : Obj} : ∀ {l : Led}, (∀ p ∈ l, p.1 < I) → OffI I it l
  | [], _ => trivial
  | p :: l, h => ⟨.inl (Nat.ne_of_lt (h p (.head _))), offI_of fun q hq => h q (.tail _ hq)⟩
theorem ints_rev : ∀ {vs : List Value} {ns : List Int}, IntsAre vs ns → ∀ {us : List Value} {ms : List Int}, IntsAre us ms → IntsAre (vs.reverse ++ us) (ns.reverse ++ ms)
  | _, _, .nil, _, _, h => h
  | _, _, .cons i t h, us, ms, h2 => by
    rw [List.reverse_cons, List.reverse_cons, List.append_assoc, List.append_assoc]
    exact ints_rev h (.cons i t h2)
theorem ints_reverse {vs : List Value} {ns : List Int} (h : IntsAre vs ns) : IntsAre vs.reverse ns.reverse := by
  have := ints_rev h .nil
  simpa using this
theorem ints_push {vs : List Value} {ns : List Int} (h : IntsAre vs ns) (i : Int) (t : Tok) : IntsAre (vs ++ [.int i t]) (ns ++ [i]) := by
  induction h with
  | nil => exact .cons i t .nil
  | cons j u _ ih => exact .cons j u ih
/-- a frame's names, those that are known written out -/
theorem mx1 {m : PySem.Str → Option Value} {a : PySem.Str} {va : Value} (ha : m a = some va) : m = fun y => if y = a then some va else m y := by
  funext y; split <;> simp_all
theorem mx2 {m : PySem.Str → Option Value} {a b : PySem.Str} {va vb : Value} (ha : m a = some va) (hb : m b = some vb) : m = fun y => if y = a then some va else if y = b then some vb else m y := by
  funext y; (repeat' split) <;> simp_all
theorem mx3 {m : PySem.Str → Option Value} {a b c : PySem.Str} {va vb vc : Value} (ha : m a = some va) (hb : m b = some vb) (hc : m c = some vc) : m = fun y => if y = a then some va else if y = b then some vb else if y = c then some vc else m y := by
  funext y; (repeat' split) <;> simp_all
theorem mx4 {m : PySem.Str → Option Value} {a b c d : PySem.Str} {va vb vc vd : Value} (ha : m a = some va) (hb : m b = some vb) (hc : m c = some vc) (hd : m d = some vd) : m = fun y => if y = a then some va else if y = b then some vb else if y = c then some vc else if y = d then some vd else m y := by
  funext y; (repeat' split) <;> simp_all
section
variable {C : Prop} {h₀ h : Heap} {L : Addr} {m : PySem.Str → Option Value} {a b c : PySem.Str} {va vb vc : Value}
theorem frGen2 (F : Fr h₀ L h m) (ha : m a = some va) (hb : m b = some vb) (k : ∀ m0 : PySem.Str → Option Value, Fr h₀ L h (fun y => if y = a then some va else if y = b then some vb else m0 y) → C) : C := k m (mx2 ha hb ▸ F)
theorem frGen3 (F : Fr h₀ L h m) (ha : m a = some va) (hb : m b = some vb) (hc : m c = some vc) (k : ∀ m0 : PySem.Str → Option Value, Fr h₀ L h (fun y => if y = a then some va else if y = b then some vb else if y = c then some vc else m0 y) → C) : C := k m (mx3 ha hb hc ▸ F)
end
section
variable {prog : PySem.Program} {w : World} {A : Around} {E : Value → Shared → Prop} {s : Shared} {h₀ : Heap} {L : Addr} {m : PySem.Str → Option Value} {news : Led} {Q : Value → Shared → Prop}
theorem my_divmod {x b : Nat} {t u : Tok} (F : Fr h₀ L s.heap m) (N : News h₀ L s.heap news) (hb : 0 < b) (hb9 : b < 1073741824)
    (h : ∀ D h' tk' u1 u2, Fr h₀ L h' m → News h₀ L h' ((D, tup [.int ((x / b : Nat) : Int) u1, .int ((x % b : Nat) : Int) u2]) :: news) → (∀ p ∈ news, p.1 < D) → Q (.ref D) { s with heap := h', toks := tk' }) :
    wpAny (model prog w) A (call (.builtin "divmod") [.int (x : Int) t, .int (b : Int) u]) Q E s := by
  refine divmod_N F N (by omega) (fun h' F' N' => ?_) (Or.inl (PyProof.noPylong_small (by omega)))
  have e1 : (x : Int).fdiv (b : Int) = ((x / b : Nat) : Int) := (Int.ofNat_fdiv x b).symm
  have e2 : (x : Int).fmod (b : Int) = ((x % b : Nat) : Int) := by
    rw [Int.fmod_eq_emod_of_nonneg _ (by omega)]; norm_cast
  rw [e1, e2] at N'
  exact h _ _ _ _ _ F' N' fun p hp => Heap.lt_size (N p hp).1
end
/-- the long division, figure by figure from the highest -/
noncomputable def divLoop (B b : Nat) : List Nat → Nat → List Nat → Nat × List Nat
  | [], r, q => (r, q)
  | d :: ds, r, q => divLoop B b ds ((r * B + d) % b) (q ++ [(r * B + d) / b])
theorem divLoop_spec (B b : Nat) (hb : 0 < b) : ∀ (ds : List Nat) (r : Nat) (q : List Nat), r < b → (∀ d ∈ ds, d < B) → (∀ d ∈ q, d < B) →
    (divLoop B b ds r q).1 = (r * B ^ ds.length + valN B ds.reverse) % b ∧ (divLoop B b ds r q).2.length = q.length + ds.length ∧ (∀ d ∈ (divLoop B b ds r q).2, d < B) ∧
    valN B (divLoop B b ds r q).2.reverse = valN B q.reverse * B ^ ds.length + (r * B ^ ds.length + valN B ds.reverse) / b
  | [], r, q, hr, _, hq => by
    simp only [divLoop, List.length_nil, Nat.pow_zero, Nat.mul_one, List.reverse_nil, valN, Nat.add_zero]
    exact ⟨(Nat.mod_eq_of_lt hr).symm, trivial, hq, by rw [Nat.div_eq_of_lt hr, Nat.add_zero]⟩
  | d :: ds, r, q, hr, hd, hq => by
    have hd0 := hd d (.head _)
    have hlt : (r * B + d) / b < B := by
      rw [Nat.div_lt_iff_lt_mul hb]
      have h1 : (r + 1) * B ≤ b * B := Nat.mul_le_mul_right B hr
      rw [Nat.add_mul, Nat.one_mul] at h1
      rw [Nat.mul_comm B b]
      omega
    have ih := divLoop_spec B b hb ds ((r * B + d) % b) (q ++ [(r * B + d) / b]) (Nat.mod_lt _ hb) (fun x hx => hd x (.tail _ hx)) (by
      intro x hx
      rcases List.mem_append.mp hx with hx | hx
      · exact hq x hx
      · rw [List.mem_singleton.mp hx]; exact hlt)
    obtain ⟨i1, i2, i3, i4⟩ := ih
    have hv : valN B (d :: ds).reverse = valN B ds.reverse + B ^ ds.length * d := by
      rw [List.reverse_cons, valN_append, List.length_reverse]
      simp [valN]
    have hq2 : valN B (q ++ [(r * B + d) / b]).reverse = (r * B + d) / b + B * valN B q.reverse := by
      rw [List.reverse_append]; rfl
    have hz : r * B ^ (d :: ds).length + valN B (d :: ds).reverse = (r * B + d) * B ^ ds.length + valN B ds.reverse := by
      rw [hv, List.length_cons, Nat.pow_succ, Nat.add_mul, Nat.mul_assoc r B, Nat.mul_comm B (B ^ ds.length), Nat.mul_comm (B ^ ds.length) d]
      omega
    have hdm := Nat.div_add_mod (r * B + d) b
    refine ⟨?_, ?_, i3, ?_⟩
    · rw [divLoop, i1, hz]
      have e : (r * B + d) * B ^ ds.length = b * ((r * B + d) / b * B ^ ds.length) + (r * B + d) % b * B ^ ds.length := by
        rw [← Nat.mul_assoc, ← Nat.add_mul, hdm]
      rw [e, Nat.add_assoc, Nat.mul_add_mod]
    · rw [divLoop, i2]; simp; omega
    · rw [divLoop, i4, hz, hq2]
      have e : (r * B + d) * B ^ ds.length = b * ((r * B + d) / b * B ^ ds.length) + (r * B + d) % b * B ^ ds.length := by
        rw [← Nat.mul_assoc, ← Nat.add_mul, hdm]
      rw [e, Nat.add_assoc, Nat.mul_add_div hb, Nat.add_mul, List.length_cons, Nat.pow_succ, Nat.mul_comm B (valN B q.reverse), Nat.mul_assoc (valN B q.reverse) B, Nat.mul_comm B (B ^ ds.length)]
      omega
/-- the figures as naturals -/
noncomputable def digsN (B : Nat) : Nat → Nat → List Nat
  | 0, _ => []
  | 1, x => [x]
  | k + 2, x => x % B :: digsN B (k + 1) (x / B)
theorem digs_cast (B : Nat) : ∀ k x, digs B k x = castL (digsN B k x)
  | 0, _ => rfl
  | 1, _ => rfl
  | k + 2, x => by rw [digs, digsN, digs_cast B (k + 1)]; rfl
theorem digsN_length (B k x : Nat) : (digsN B k x).length = k := by
  have := digs_length B k x
  rw [digs_cast] at this
  simpa [castL] using this
theorem digsN_lt {B : Nat} (hB : 0 < B) : ∀ k x, x < B ^ k → ∀ d ∈ digsN B k x, d < B
  | 0, _, _, _, h => nomatch h
  | 1, x, hx, d, h => by
    rw [digsN] at h
    rw [List.mem_singleton.mp h]
    simpa using hx
  | k + 2, x, hx, d, h => by
    rw [digsN] at h
    rcases List.mem_cons.mp h with rfl | h
    · exact Nat.mod_lt _ hB
    · refine digsN_lt hB (k + 1) (x / B) ?_ d h
      rw [Nat.div_lt_iff_lt_mul hB]
      rwa [Nat.pow_succ] at hx
theorem valN_digsN {B : Nat} : ∀ k x, (k = 0 → x = 0) → valN B (digsN B k x) = x
  | 0, x, h => by rw [h rfl]; rfl
  | 1, x, _ => by simp [digsN, valN]
  | k + 2, x, _ => by
    rw [digsN, valN, valN_digsN (k + 1) (x / B) (by omega)]
    exact Nat.mod_add_div x B
theorem bits_room {x n k : Nat} (hn : 0 < n) (hk : ((Builtin.Int.intBits x : Int) + n - 1).fdiv n = (k : Int)) : x < (2 ^ n) ^ k := by
  have e : ((Builtin.Int.intBits x : Int) + n - 1) = ((Builtin.Int.intBits x + n - 1 : Nat) : Int) := by omega
  rw [e, ← Int.ofNat_fdiv] at hk
  have h2 : (Builtin.Int.intBits x + n - 1) / n = k := by exact_mod_cast hk
  have h3 : Builtin.Int.intBits x ≤ n * k := by
    have h4 := Nat.div_add_mod (Builtin.Int.intBits x + n - 1) n
    have h5 := Nat.mod_lt (Builtin.Int.intBits x + n - 1) hn
    rw [h2] at h4
    generalize n * k = z at *
    omega
  have h6 := (intBits_le_iff (x := (x : Int))).mp h3
  rw [← Nat.pow_mul]
  simpa using h6
theorem pow_bits_pos {b : Nat} (hb : 0 < b) : 0 < Builtin.Int.intBits (b : Int) := by
  rcases Nat.eq_zero_or_pos (Builtin.Int.intBits (b : Int)) with h | h
  · have := (intBits_le_iff (m := 0) (x := (b : Int))).mp (by omega)
    simp at this; omega
  · exact h
noncomputable def DivP (Dq : Addr) (fx : Led) (b n : Nat) (R : Nat × List Nat) (us : List Value) (m : PySem.Str → Option Value) (nw : Led) : Prop :=
  ∀ C : Led → Prop, (∀ (rd : List Nat) (r : Nat) (q : List Nat) (qv : List Value) (tr tb tn : Tok) (c : Nat), IntsAre us (castL rd) → IntsAre qv (castL q) →
    m (PySem.Str.ofString "r") = some (.int r tr) → m (PySem.Str.ofString "b") = some (.int b tb) → m (PySem.Str.ofString "n") = some (.int n tn) → m (PySem.Str.ofString "q_digits") = some (.ref Dq) →
    r < b → (∀ d ∈ rd, d < 2 ^ n) → q.length + rd.length < 200 → divLoop (2 ^ n) b rd r q = R → C ((Dq, W.listOf qv.toArray c) :: fx)) → C nw
end Mine
end
section
open PySem PySem.W PyProof.Rows PySem.Calls PySem.Spec
namespace Mine
theorem ints_cons {v : Value} {us : List Value} {d : Nat} {rd : List Nat} (h : IntsAre (v :: us) (castL (d :: rd))) : ∃ t, v = .int (d : Int) t ∧ IntsAre us (castL rd) := by
  cases h with
  | cons _ t h => exact ⟨t, rfl, h⟩
theorem ints_none {v : Value} {us : List Value} (h : IntsAre (v :: us) (castL [])) : False := by cases h
theorem ints_end {d : Nat} {rd : List Nat} (h : IntsAre [] (castL (d :: rd))) : False := by cases h
theorem ints_pushN {vs : List Value} {q : List Nat} (h : IntsAre vs (castL q)) (x : Nat) (t : Tok) : IntsAre (vs ++ [.int (x : Int) t]) (castL (q ++ [x])) := by
  have := ints_push h (x : Int) t
  simpa [castL] using this
theorem div_room {r d b n : Nat} (hr : r < b) (hb : b < 1073741824) (hd : d < 2 ^ n) (hn : n ≤ 30) : r * 2 ^ n + d < 2 ^ 100 := by
  have h1 : 2 ^ n ≤ 2 ^ 30 := Nat.pow_le_pow_right (by decide) hn
  have h2 : r * 2 ^ n ≤ 1073741824 * 2 ^ 30 := Nat.mul_le_mul (by omega) h1
  omega
theorem ne_lt {l : Led} {c : Nat} (h : ∀ p ∈ l, p.1 < c) : ∀ p ∈ l, p.1 ≠ c := fun p hp => Nat.ne_of_lt (h p hp)
section
variable {prog : PySem.Program} {w : World} {A : Around} {E : Value → Shared → Prop} {s : Shared} {h₀ : Heap} {L D : Addr} {m : PySem.Str → Option Value} {news news' : Led} {Q : Value → Shared → Prop}
theorem my_reverse {vs : List Value} {n : Nat} (F : Fr h₀ L s.heap m) (N : News h₀ L s.heap news) (U : Upd D (W.listOf vs.toArray n) (W.listOf vs.reverse.toArray n) news news') (hz : vs.length ≤ 1000000)
    (h : ∀ h', Fr h₀ L h' m → News h₀ L h' news' → Q .none { s with heap := h' }) : wpAny (model prog w) A (call (.builtin "list.reverse") [.ref D]) Q E s :=
  kl_reverse F N (its := vs.toArray) rfl U (by rw [sizeLine_eq]; simp; omega) h
end
theorem divAll {n b k x : Nat} {r : Nat} {q : List Nat} (hb : 0 < b) (hx : x < (2 ^ n) ^ k) (h : divLoop (2 ^ n) b [] r q = divLoop (2 ^ n) b (digsN (2 ^ n) k x).reverse 0 []) :
    r = x % b ∧ valN (2 ^ n) q.reverse = x / b ∧ (∀ d ∈ q.reverse, d < 2 ^ n) ∧ q.reverse.length = k := by
  have hz := divLoop_spec (2 ^ n) b hb (digsN (2 ^ n) k x).reverse 0 [] hb (fun d hd => digsN_lt (Nat.two_pow_pos n) k x hx d (List.mem_reverse.mp hd)) (fun _ h => nomatch h)
  rw [← h] at hz
  have hv : valN (2 ^ n) (digsN (2 ^ n) k x) = x := valN_digsN k x (fun h0 => by subst h0; simpa using hx)
  simp only [divLoop, List.reverse_reverse, hv, Nat.zero_mul, Nat.zero_add, List.length_reverse, digsN_length, List.length_nil, List.reverse_nil, valN] at hz
  obtain ⟨z1, z2, z3, z4⟩ := hz
  exact ⟨z1, z4, fun d hd => z3 d (List.mem_reverse.mp hd), by rw [List.length_reverse, z2]⟩
theorem endLed {ext2 ext news : Led} {D P Q R : Addr × Obj} : ∀ p ∈ D :: P :: Q :: ((ext2 ++ ext) ++ news), p ∈ D :: Q :: (ext2 ++ R :: P :: (ext ++ news)) := by
  intro p hp
  simp only [List.mem_cons, List.mem_append] at hp ⊢
  grind
theorem app_mono {ext2 ext news : Led} : ∀ p ∈ ext ++ news, p ∈ (ext2 ++ ext) ++ news := by
  intro p hp
  simp only [List.mem_append] at hp ⊢
  grind
theorem app_monoR {ext2 ext T0 : Led} : ∀ p ∈ ext2 ++ T0, p ∈ (ext2 ++ ext) ++ T0 := by
  intro p hp
  simp only [List.mem_append] at hp ⊢
  grind
theorem fresh_app {ext2 ext news : Led} {P Q : Addr × Obj} {a b : Addr} (h2 : ∀ q ∈ ext2, (∀ p ∈ P :: Q :: (ext ++ news), p.1 < q.1) ∧ a < q.1) (h1 : ∀ q ∈ ext, (∀ p ∈ (a, b') :: news, p.1 < q.1) ∧ b < q.1) : ∀ q ∈ ext2 ++ ext, (∀ p ∈ news, p.1 < q.1) ∧ a < q.1 := by
  intro q hq
  rcases List.mem_append.mp hq with hq | hq
  · exact ⟨fun p hp => (h2 q hq).1 p (.tail _ (.tail _ (List.mem_append.mpr (.inr hp)))), (h2 q hq).2⟩
  · exact ⟨fun p hp => (h1 q hq).1 p (.tail _ hp), (h1 q hq).1 _ (.head _)⟩
theorem div_k {x b : Nat} (hx : x < 2 ^ 60) (hb : 0 < b) (hb9 : b < 65536) : ∃ n k : Nat, Builtin.Int.intBits (b : Int) = n ∧ ((Builtin.Int.intBits x : Int) + n - 1).fdiv n = (k : Int) ∧ n * k ≤ 80 ∧ k < 200 := by
  refine ⟨_, (Builtin.Int.intBits (x : Int) + Builtin.Int.intBits (b : Int) - 1) / Builtin.Int.intBits (b : Int), rfl, ?_, ?_, ?_⟩
  · have h1 := pow_bits_pos hb
    have e : ((Builtin.Int.intBits x : Int) + (Builtin.Int.intBits (b : Int) : Int) - 1) = ((Builtin.Int.intBits x + Builtin.Int.intBits (b : Int) - 1 : Nat) : Int) := by omega
    rw [e, ← Int.ofNat_fdiv]
  · have h2 : Builtin.Int.intBits (x : Int) ≤ 60 := intBits_le_iff.mpr (by omega)
    have h3 : Builtin.Int.intBits (b : Int) ≤ 16 := intBits_le_iff.mpr (by omega)
    have h4 := Nat.mul_div_le (Builtin.Int.intBits (x : Int) + Builtin.Int.intBits (b : Int) - 1) (Builtin.Int.intBits (b : Int))
    omega
  · have h2 : Builtin.Int.intBits (x : Int) ≤ 60 := intBits_le_iff.mpr (by omega)
    have h3 : Builtin.Int.intBits (b : Int) ≤ 16 := intBits_le_iff.mpr (by omega)
    have h4 := Nat.div_le_self (Builtin.Int.intBits (x : Int) + Builtin.Int.intBits (b : Int) - 1) (Builtin.Int.intBits (b : Int))
    omega
theorem fdm_nat (x b : Nat) : (((x / b : Nat) : Int) = (x : Int).fdiv (b : Int)) ∧ (((x % b : Nat) : Int) = (x : Int).fmod (b : Int)) := by
  refine ⟨Int.ofNat_fdiv x b, ?_⟩
  rw [Int.fmod_eq_emod_of_nonneg _ (by omega)]; norm_cast
theorem fdm_not (a : Int) (b : Nat) (hb : 0 < b) : a.fdiv b = -((-a - 1).fdiv b) - 1 ∧ a.fmod b = b + (-((-a - 1).fmod b) - 1) := by
  have hb' : (0 : Int) < b := by omega
  rw [Int.fdiv_eq_ediv_of_nonneg _ (by omega), Int.fdiv_eq_ediv_of_nonneg _ (by omega), Int.fmod_eq_emod_of_nonneg _ (by omega), Int.fmod_eq_emod_of_nonneg _ (by omega)]
  have h1 := Int.emod_add_mul_ediv a b
  have h2 := Int.emod_add_mul_ediv (-a - 1) b
  have h3 := Int.emod_nonneg a (by omega : (b : Int) ≠ 0)
  have h4 := Int.emod_lt_of_pos a hb'
  have h5 := Int.emod_nonneg (-a - 1) (by omega : (b : Int) ≠ 0)
  have h6 := Int.emod_lt_of_pos (-a - 1) hb'
  have key : a / b + (-a - 1) / b = -1 := by
    have e : (b : Int) * (a / b + (-a - 1) / b) = -1 - (a % b + (-a - 1) % b) := by rw [Int.mul_add]; omega
    generalize a / (b : Int) + (-a - 1) / (b : Int) = z at e
    have h7 : ¬ (0 ≤ z) := fun h => by have := Int.mul_nonneg (Int.le_of_lt hb') h; omega
    have h8 : ¬ (z ≤ -2) := fun h => by
      have := Int.mul_le_mul_of_nonneg_left h (Int.le_of_lt hb')
      omega
    omega
  refine ⟨by omega, ?_⟩
  have e : (b : Int) * (a / b + (-a - 1) / b) = -1 - (a % b + (-a - 1) % b) := by rw [Int.mul_add]; omega
  rw [key] at e
  omega
theorem tupII {D : Addr} {x y x' y' : Int} {t u : Tok} {news : Led} (h1 : x = x') (h2 : y = y') :
    ((D, ({ cls := .type "tuple", data := .seq #[.int x t, .int y u] } : Obj)) :: news) = (D, tup [.int x' t, .int y' u]) :: news := by
  subst h1; subst h2; rfl
theorem dropLed {ext news : Led} {D E P Q : Addr × Obj} : ∀ p ∈ D :: P :: Q :: (ext ++ news), p ∈ D :: E :: P :: Q :: (ext ++ news) := by
  intro p hp
  simp only [List.mem_cons, List.mem_append] at hp ⊢
  grind
theorem not1 (x : Int) (b : Nat) (hb : 0 < b) : Builtin.bitNot ((Builtin.bitNot x).fdiv b) = x.fdiv b ∧ (b : Int) + Builtin.bitNot ((Builtin.bitNot x).fmod b) = x.fmod b := by
  obtain ⟨h1, h2⟩ := fdm_not x b hb
  have e : ∀ z, Builtin.bitNot z = -z - 1 := fun z => by unfold Builtin.bitNot; omega
  rw [e, e, e]
  exact ⟨h1.symm, h2.symm⟩
section
variable {Dq : Addr} {fx : Led} {b n : Nat} {R : Nat × List Nat} {m : PySem.Str → Option Value} {nw : Led}
theorem DivP.turn {v : Value} {us : List Value} {C : Value → Led → Prop} (h : DivP Dq fx b n R (v :: us) m nw)
    (k : ∀ (d : Nat) (td : Tok) (rd : List Nat) (r : Nat) (q : List Nat) (qv : List Value) (tr tb tn : Tok) (c : Nat), IntsAre us (castL rd) → IntsAre qv (castL q) →
      m (PySem.Str.ofString "r") = some (.int r tr) → m (PySem.Str.ofString "b") = some (.int b tb) → m (PySem.Str.ofString "n") = some (.int n tn) → m (PySem.Str.ofString "q_digits") = some (.ref Dq) →
      r < b → (∀ x ∈ d :: rd, x < 2 ^ n) → q.length + (d :: rd).length < 200 → divLoop (2 ^ n) b (d :: rd) r q = R → C (.int (d : Int) td) ((Dq, W.listOf qv.toArray c) :: fx)) : C v nw := by
  refine h _ fun rd r q qv tr tb tn c hus hqv e1 e2 e3 e4 hr hrd hlen hR => ?_
  cases rd with
  | nil => exact (ints_none hus).elim
  | cons d rd =>
    obtain ⟨td, rfl, hus2⟩ := ints_cons hus
    exact k d td rd r q qv tr tb tn c hus2 hqv e1 e2 e3 e4 hr hrd hlen hR
theorem DivP.done {C : Led → Prop} (h : DivP Dq fx b n R [] m nw)
    (k : ∀ (r : Nat) (q : List Nat) (qv : List Value) (tr tb tn : Tok) (c : Nat), IntsAre qv (castL q) →
      m (PySem.Str.ofString "r") = some (.int r tr) → m (PySem.Str.ofString "b") = some (.int b tb) → m (PySem.Str.ofString "n") = some (.int n tn) → m (PySem.Str.ofString "q_digits") = some (.ref Dq) →
      r < b → q.length < 200 → divLoop (2 ^ n) b [] r q = R → C ((Dq, W.listOf qv.toArray c) :: fx)) : C nw := by
  refine h _ fun rd r q qv tr tb tn c hus hqv e1 e2 e3 e4 hr hrd hlen hR => ?_
  cases rd with
  | cons d rd => exact (ints_end hus).elim
  | nil => exact k r q qv tr tb tn c hqv e1 e2 e3 e4 hr hlen hR
end
end Mine
end
section
open PySem PySem.W PyProof.Rows PySem.Calls PySem.Spec
open PySem.StrLaws PySem.Builtin.Str
namespace Mine
/-- a text's signs, every P giving way to Z, from the left -/
noncomputable def replL (P Z : List Nat) : List Nat → Nat → List Nat
  | [], _ => []
  | c :: r, 0 => if P.isPrefixOf (c :: r) then Z ++ replL P Z r (P.length - 1) else c :: replL P Z r 0
  | _ :: r, k + 1 => replL P Z r k
theorem replL_skip (P Z : List Nat) : ∀ (L : List Nat) (k : Nat), replL P Z L k = replL P Z (L.drop k) 0
  | [], k => by cases k <;> simp [replL]
  | c :: r, 0 => rfl
  | c :: r, k + 1 => by rw [replL, replL_skip P Z r k, List.drop_succ_cons]
theorem replL_gap (P Z : List Nat) : ∀ (j : Nat) (L : List Nat), j ≤ L.length → (∀ k, k < j → ¬ P.isPrefixOf (L.drop k) = true) → replL P Z L 0 = L.take j ++ replL P Z (L.drop j) 0
  | 0, L, _, _ => by simp
  | j + 1, [], h, _ => by simp at h
  | j + 1, c :: r, h, hn => by
    have h0 := hn 0 (Nat.succ_pos j)
    rw [List.drop_zero] at h0
    rw [replL, if_neg h0, replL_gap P Z j r (by simpa using h) (fun k hk => by have := hn (k + 1) (by omega); simpa using this)]
    rfl
theorem replL_hit (P Z : List Nat) (hP : P ≠ []) (L : List Nat) (h : P.isPrefixOf L = true) : replL P Z L 0 = Z ++ replL P Z (L.drop P.length) 0 := by
  cases L with
  | nil => cases P with
    | nil => exact absurd rfl hP
    | cons _ _ => simp [List.isPrefixOf] at h
  | cons c r =>
    cases P with
    | nil => exact absurd rfl hP
    | cons p q =>
      rw [replL, if_pos h, replL_skip]
      rfl
theorem at_iff (x y : PySem.Str) (k : Nat) (hy : 1 ≤ y.length) : StrLaws.At x y x.length k ↔ y.cps.toList.isPrefixOf (x.cps.toList.drop k) = true := by
  have hl : x.cps.toList.length = x.length := by simp [PySem.Str.length]
  have hly : y.cps.toList.length = y.length := by simp [PySem.Str.length]
  unfold StrLaws.At
  rw [subAt_eq, List.isPrefixOf_iff_prefix, List.prefix_iff_eq_take, hly]
  constructor
  · rintro ⟨_, h⟩
    exact (eq_of_beq h).symm
  · intro h
    refine ⟨?_, ?_⟩
    · have := congrArg List.length h
      rw [hly, List.length_take, List.length_drop, hl] at this
      omega
    · rw [← h]; exact beq_self_eq_true _
theorem sub_list (x : PySem.Str) (i j : Nat) : (strSub x i j).cps.toList = (x.cps.toList.drop i).take (j - i) := strSub_toList x i j
theorem join_list2 (z p : PySem.Str) (q : List PySem.Str) (h : q ≠ []) : (PySem.Str.join z (p :: q)).cps.toList = p.cps.toList ++ z.cps.toList ++ (PySem.Str.join z q).cps.toList := by
  cases q with
  | nil => exact absurd rfl h
  | cons a b =>
    show (p ++ z ++ PySem.Str.join z (a :: b)).cps.toList = _
    simp [PySem.Str.cps_append]
theorem rep_parts (x y z : PySem.Str) (hy : 1 ≤ y.length) : ∀ (cuts : List Nat) (a f : Nat), ChainG x y x.length a cuts f → (∀ k, f ≤ k → ¬ StrLaws.At x y x.length k) → a ≤ x.length →
    (PySem.Str.join z (partsFrom x y.length a cuts)).cps.toList = replL y.cps.toList z.cps.toList (x.cps.toList.drop a) 0
  | [], a, f, h, hn, ha => by
    have e : f = a := h
    subst e
    have hl : x.cps.toList.length = x.length := by simp [PySem.Str.length]
    show (strSub x f x.length).cps.toList = _
    rw [sub_list, replL_gap _ _ ((x.cps.toList.drop f).length) _ (Nat.le_refl _) (fun k hk hp => by
      rw [List.drop_drop] at hp
      exact hn (f + k) (by omega) ((at_iff x y (f + k) hy).mpr hp))]
    rw [List.drop_length]
    simp only [replL, List.append_nil, List.take_length]
    exact List.take_of_length_le (by simp [hl])
  | c :: r, a, f, h, hn, ha => by
    have hl : x.cps.toList.length = x.length := by simp [PySem.Str.length]
    have hly : y.cps.toList.length = y.length := by simp [PySem.Str.length]
    obtain ⟨h1, h2, h3, h4⟩ := h
    have hc := h2.1
    have ih := rep_parts x y z hy r (c + y.length) f h4 hn hc
    obtain ⟨p, q, e⟩ := partsFrom_ne x y.length (c + y.length) r
    show (PySem.Str.join z (strSub x a c :: partsFrom x y.length (c + y.length) r)).cps.toList = _
    rw [join_list2 _ _ _ (by rw [e]; exact List.cons_ne_nil _ _), ih, sub_list]
    rw [replL_gap _ _ (c - a) (x.cps.toList.drop a) (by simp [hl]; omega) (fun k hk hp => by
      rw [List.drop_drop] at hp
      exact h3 (a + k) (by omega) (by omega) ((at_iff x y (a + k) hy).mpr hp))]
    rw [List.drop_drop, show a + (c - a) = c by omega]
    have hpre := (at_iff x y c hy).mp h2
    rw [replL_hit _ _ (by intro e0; rw [e0] at hly; simp at hly; omega) _ hpre, List.drop_drop, hly, List.append_assoc]
theorem strKind_pos (x : PySem.Str) : 1 ≤ PySem.Builtin.Str.strKind x := by
  unfold PySem.Builtin.Str.strKind
  (repeat' split) <;> omega
theorem rep_list (x y z : PySem.Str) (hy : 1 ≤ y.length) (hk : PySem.Builtin.Str.strKind y = 1) : (Txt.join z (Txt.split x y)).cps.toList = replL y.cps.toList z.cps.toList x.cps.toList 0 := by
  have hl : x.cps.toList.length = x.length := by simp [PySem.Str.length]
  show (PySem.Builtin.Str.glued z (Txt.split x y)).cps.toList = _
  rw [glued_eq_join]
  obtain ⟨f, hG, hn⟩ := occ_tight x y hy
  have key := rep_parts x y z hy _ 0 f hG hn (Nat.zero_le _)
  rw [List.drop_zero] at key
  unfold Txt.split
  split
  · rename_i hc
    have hlt : x.length < y.length := by
      have := strKind_pos x
      rw [hk] at hc
      simp only [Bool.or_eq_true, decide_eq_true_eq] at hc
      omega
    have hz : occurrences x y 0 x.length (x.length + 1) = [] := by
      cases ho : occurrences x y 0 x.length (x.length + 1) with
      | nil => rfl
      | cons c r =>
        rw [ho] at hG
        have := hG.2.1.1
        omega
    rw [hz] at key
    rw [← key]
    show x.cps.toList = (strSub x 0 x.length).cps.toList
    rw [sub_whole]
  · split
    · rename_i _ he
      rw [List.isEmpty_iff] at he
      rw [he] at key
      rw [← key]
      show x.cps.toList = (strSub x 0 x.length).cps.toList
      rw [sub_whole]
    · rw [partsBetween_eq]; exact key
theorem parts_weight (x y : PySem.Str) (hy : 1 ≤ y.length) : ∀ (cuts : List Nat) (a f : Nat), ChainG x y x.length a cuts f → a ≤ x.length →
    ((partsFrom x y.length a cuts).map (·.length)).sum + (partsFrom x y.length a cuts).length ≤ x.length - a + 1
  | [], a, f, h, ha => by
    show ([(strSub x a x.length)].map (·.length)).sum + 1 ≤ _
    have : (strSub x a x.length).length = x.length - a := by
      have := congrArg List.length (sub_list x a x.length)
      simp [PySem.Str.length] at this ⊢
      omega
    simp [this]
  | c :: r, a, f, h, ha => by
    obtain ⟨h1, h2, h3, h4⟩ := h
    have ih := parts_weight x y hy r (c + y.length) f h4 h2.1
    have : (strSub x a c).length = c - a := by
      have := congrArg List.length (sub_list x a c)
      have hc := h2.1
      simp [PySem.Str.length] at this hc ⊢
      omega
    show ((strSub x a c :: partsFrom x y.length (c + y.length) r).map (·.length)).sum + (partsFrom x y.length (c + y.length) r).length + 1 ≤ _
    rw [List.map_cons, List.sum_cons, this]
    have := h2.1
    omega
theorem split_weight (x y : PySem.Str) (hy : 1 ≤ y.length) : ((Txt.split x y).map (·.length)).sum + (Txt.split x y).length ≤ x.length + 1 := by
  obtain ⟨f, hG, hn⟩ := occ_tight x y hy
  have key := parts_weight x y hy _ 0 f hG (Nat.zero_le _)
  unfold Txt.split
  split
  · simp
  · split
    · simp
    · rw [partsBetween_eq]; omega
theorem replL_length (P Z : List Nat) (K : Nat) (hZ : Z.length ≤ K) (hK : 1 ≤ K) : ∀ (L : List Nat) (k : Nat), (replL P Z L k).length ≤ L.length * K
  | [], _ => by simp [replL]
  | c :: r, 0 => by
    rw [replL]
    split
    · have := replL_length P Z K hZ hK r (P.length - 1)
      rw [List.length_append, List.length_cons, Nat.add_mul]
      omega
    · have := replL_length P Z K hZ hK r 0
      rw [List.length_cons, List.length_cons, Nat.add_mul]
      omega
  | _ :: r, k + 1 => by
    have := replL_length P Z K hZ hK r k
    rw [replL, List.length_cons, Nat.add_mul]
    omega
theorem rep_len1 {x' x : PySem.Str} {P Z : List Nat} (e : x'.cps.toList = replL P Z x.cps.toList 0) (hZ : Z.length ≤ 1) : x'.length ≤ x.length := by
  have := replL_length P Z 1 hZ (Nat.le_refl _) x.cps.toList 0
  rw [← e] at this
  simpa [PySem.Str.length] using this
theorem rep_len3 {x' x : PySem.Str} {P Z : List Nat} (e : x'.cps.toList = replL P Z x.cps.toList 0) (hZ : Z.length ≤ 3) : x'.length ≤ x.length * 3 := by
  have := replL_length P Z 3 hZ (by decide) x.cps.toList 0
  rw [← e] at this
  simpa [PySem.Str.length] using this
section
variable {prog : PySem.Program} {w : World} {A : Around} {E : Value → Shared → Prop} {s : Shared} {h₀ : Heap} {L D : Addr} {m : PySem.Str → Option Value} {news : Led} {Q : Value → Shared → Prop}
theorem my_join {x y z : PySem.Str} {t : Tok} {l : List (PySem.Str × Tok)} (N : News h₀ L s.heap news) (hm : (D, W.listOf (strValues l).toArray 0) ∈ news) (e : l.map (·.1) = Txt.split x y) (hy : 1 ≤ y.length) (hk : PySem.Builtin.Str.strKind y = 1) (hx : x.length ≤ 100000) (hz : z.length ≤ 64)
    (h : ∀ x' t' k, x'.cps.toList = replL y.cps.toList z.cps.toList x.cps.toList 0 → Q (.str x' t') { s with toks := k }) :
    wpAny (model prog w) A (call (.builtin "str.join") [.str z t, .ref D]) Q E s := by
  have hw := split_weight x y hy
  have hs : StrsAre (strValues l).toArray.toList (l.map (·.1)) := strsAre_of_values l
  refine join_listC (ys := l.map (·.1)) ⟨_, (N _ hm).1, rfl, 0, rfl⟩ hs hz (by rw [e]; omega) (fun t' k => h _ t' k ?_)
  rw [e]
  exact rep_list x y z hy hk
theorem my_tupfrom {value slice : PySem.Expr} {t : Addr} {vs : List Value} {n : Nat} {a : Nat} {u : Tok}
    (F : Fr h₀ L s.heap m) (N : News h₀ L s.heap news) (ht : (t, ({ cls := .type "tuple", data := .seq vs.toArray n } : Obj)) ∈ news) (h1 : 1 ≤ a) (ha : a ≤ vs.length)
    (h : ∀ D h', Fr h₀ L h' m → News h₀ L h' ((D, ({ cls := .type "tuple", data := .seq (vs.drop a).toArray } : Obj)) :: news) → (∀ p ∈ news, p.1 < D) → Q (.ref D) { s with heap := h' })
    (hs : subscripted slice false (.ref t) (.ref s.heap.objs.size) = operate [.ref s.heap.objs.size, .ref t] (getItem (.ref t) (.ref s.heap.objs.size)) := by with_unfolding_all rfl)
    (hg : ∀ r, letTemporaryGo value (.ref t) r = pure () := by intro _; with_unfolding_all rfl)
    (hsz : vs.length ≤ 1000) :
    wpAny (model prog w) A (subscriptTail value slice (.ref t) (.ref s.heap.objs.size)) Q E { s with heap := s.heap.push { cls := .type "slice", data := .fields #[.int a u, .none, .none] } } :=
  slice_tuple_from F N (News.isTup N ht) h1 (by simpa using ha) (fun h' F' N' => h _ h' F' (by simpa using N') fun p hp => Nat.lt_succ_of_lt (Heap.lt_size (N p hp).1)) hs hg (by rw [sizeLine_eq]; simp; omega)
end
end Mine
end
section
open PySem PySem.W PyProof.Rows PySem.Calls PySem.Spec
open PyProof.V
namespace Mine
section
variable {prog : PySem.Program} {w : World} {A : Around} {E : Value → Shared → Prop} {s : Shared}
theorem nextOf_tuple_item {it t : Addr} {i : Nat} {items} {x : Value} {Q : Value → Shared → Prop} (hit : s.heap.IsTupleIter it t i)
    (ht : s.heap.IsTuple t items) (hx : items[i]? = some x)
    (hQ : ∀ h', h'.IsTupleIter it t (i + 1) → Heap.SameBut it s.heap h' → Q x { s with heap := h' }) :
    wpAny (model prog w) A (Builtin.SmallTypes.nextOf (.ref it)) Q E s := by
  obtain ⟨o, ho, hc, hd⟩ := id hit
  obtain ⟨ol, hol, _, nl, hdl⟩ := ht
  unfold Builtin.SmallTypes.nextOf
  refine wpAny_bind (wpAny_callSpecial?_slot (name := Str.ofString "__next__") hit.typeIs F.slot_tuple_iterator_next
    (wpAny_call_entry F.slot_tuple_iterator_next hit.typeIs F.entry_tuple_iterator_next ?_ (F.args_tuple_iterator_next_1 _)))
  show wpAny _ _ (field (.ref it) 0 >>= _) _ _ s
  refine wpAny_bind (wpAny_field ho hd (x := .ref t) rfl ?_)
  show wpAny _ _ (if (Value.ref t == Value.none) = true then _ else _) _ _ s
  rw [if_neg (show ¬ ((Value.ref t == Value.none) = true) from Bool.false_ne_true)]
  show wpAny _ _ (field (.ref it) 1 >>= _) _ _ s
  refine wpAny_bind (wpAny_field ho hd (x := .int i 0) rfl ?_)
  show wpAny _ _ (seqItems? (.ref t) >>= _) _ _ s
  refine wpAny_bind (wpAny_seqItems hol hdl ?_)
  simp only [Int.toNat_natCast, hx]
  refine wpAny_bind (wpAny_setField ho hd (by simp) (wpAny_pure ⟨x, rfl, wpAny_pure (hQ _ ?_ (Heap.SameBut.update ..))⟩))
  exact ⟨_, Heap.get?_update_self _ ho (Obj.isFreed_of_fields (Obj.data_mapFields hd _)), (Obj.cls_mapFields ..).trans hc, by
    rw [Obj.data_mapFields hd]; simp [rawInt]⟩
theorem nextOf_tuple_end {it t : Addr} {i : Nat} {items} {Q : Value → Shared → Prop} (hh : A.handled = none)
    (hit : s.heap.IsTupleIter it t i) (ht : s.heap.IsTuple t items) (hx : items[i]? = none)
    (hE : ∀ h' e, Heap.ExtBut it s.heap h' → (∃ o, h'.get? e = some o ∧ o.cls = .type "StopIteration") → E (.ref e) { s with heap := h' }) :
    wpAny (model prog w) A (Builtin.SmallTypes.nextOf (.ref it)) Q E s := by
  obtain ⟨o, ho, hc, hd⟩ := id hit
  obtain ⟨ol, hol, _, nl, hdl⟩ := ht
  unfold Builtin.SmallTypes.nextOf
  refine wpAny_bind (wpAny_callSpecial?_slot (name := Str.ofString "__next__") hit.typeIs F.slot_tuple_iterator_next
    (wpAny_call_entry F.slot_tuple_iterator_next hit.typeIs F.entry_tuple_iterator_next ?_ (F.args_tuple_iterator_next_1 _)))
  show wpAny _ _ (field (.ref it) 0 >>= _) _ _ s
  refine wpAny_bind (wpAny_field ho hd (x := .ref t) rfl ?_)
  show wpAny _ _ (if (Value.ref t == Value.none) = true then _ else _) _ _ s
  rw [if_neg (show ¬ ((Value.ref t == Value.none) = true) from Bool.false_ne_true)]
  show wpAny _ _ (field (.ref it) 1 >>= _) _ _ s
  refine wpAny_bind (wpAny_field ho hd (x := .int i 0) rfl ?_)
  show wpAny _ _ (seqItems? (.ref t) >>= _) _ _ s
  refine wpAny_bind (wpAny_seqItems hol hdl ?_)
  simp only [Int.toNat_natCast, hx]
  refine wpAny_bind (wpAny_rule (wpAny_bind (wpAny_setField ho hd (by simp) ?_)))
  show wpAny _ _ (newExc (.type "StopIteration") [] >>= _) _ _ _
  refine wpAny_bind ?_
  simp only [newExc, newTuple]
  refine wpAny_bind (wpAny_newObj_type ?_ (by size_fits))
  refine wpAny_bind (m := firstArgMember _ _) (wpAny_of_eq (a := Value.none) (by first | rfl | (simp only [firstArgMember]; rfl)) ?_)
  refine wpAny_newObj_type ?_ (by size_fits)
  simp only [raiseNew]
  refine wpAny_bind (wpAny_handled ?_)
  first | rw [show A.in1.handled = none from hh] | rw [hh]
  refine wpAny_bind (wpAny_pure (wpAny_throw ?_))
  exact hE _ _ (((Heap.SameBut.update ..).extBut.push _).push _) ⟨_, Heap.get?_push_size _ rfl, rfl⟩
end
theorem drawsTuple {prog : PySem.Program} {w : World} {A : Around} (hh : A.handled = none) (it l : Addr) (hne : l ≠ it) (items : Array Value) :
    Draws prog w A it [it, l] items.size (fun i v => items[i]? = some v) (fun i h => h.IsTupleIter it l i ∧ h.IsTuple l items) where
  live := fun _ _ st => let ⟨o, ho, _⟩ := st.1; ⟨o, ho⟩
  frame := fun _ _ _ st hk => ⟨st.1.at fun o e => hk it (by simp) o e, st.2.at fun o e => hk l (by simp) o e⟩
  item := fun i s Q E hi st hQ => by
    refine nextOf_tuple_item st.1 st.2 (x := items[i]) (by simp [hi]) fun h' hit' hs' => ?_
    exact hQ _ h' s.toks (by simp [hi]) ⟨hit', st.2.extBut hs'.extBut hne⟩ hs'
  done := fun s Q E st hE => nextOf_tuple_end hh st.1 st.2 (by simp) hE
/-- two draws, set side by side -/
structure ZA (z TI TO i1 i2 : Addr) (fp1 fp2 : List Addr) : Prop where
  TIz : TI ≠ z
  TOz : TO ≠ z
  i1z : i1 ≠ z
  i2z : i2 ≠ z
  TITO : TI ≠ TO
  TIi1 : TI ≠ i1
  TIi2 : TI ≠ i2
  TOi1 : TO ≠ i1
  TOi2 : TO ≠ i2
  i12 : i1 ≠ i2
  z1 : z ∉ fp1
  z2 : z ∉ fp2
  TO1 : TO ∉ fp1
  TO2 : TO ∉ fp2
  i21 : i2 ∉ fp1
  i1f : i1 ∉ fp2
section
variable {prog : PySem.Program} {w : World} {A : Around} {E : Value → Shared → Prop} {s : Shared} {z TI TO i1 i2 : Addr} {fp1 fp2 : List Addr} {n1 n2 : Nat} {P1 P2 : Nat → Value → Prop} {S1 S2 : Nat → Heap → Prop}
theorem zipD_item {k : Nat} {a b : Value} {Q : Value → Shared → Prop} (D : ZA z TI TO i1 i2 fp1 fp2) (D1 : Draws prog w A i1 fp1 n1 P1 S1) (D2 : Draws prog w A i2 fp2 n2 P2 S2)
    (hz : IsZip s.heap z TI TO .none) (hTI : IsPair s.heap TI (.ref i1) (.ref i2)) (hTO : IsPair s.heap TO a b) (h1 : S1 k s.heap) (h2 : S2 k s.heap) (l1 : k < n1) (l2 : k < n2)
    (hQ : ∀ h' tk x y, P1 k x → P2 k y → IsZip h' z TI TO (rawInt s.heap.objs.size) → IsPair h' TO x y → S1 (k + 1) h' → S2 (k + 1) h' → IsPair h' s.heap.objs.size x y → h'.objs.size = s.heap.objs.size + 1 →
      (∀ c o, c ≠ z → c ≠ TO → c ≠ i1 → c ≠ i2 → s.heap.get? c = some o → h'.get? c = some o) → Q (.ref s.heap.objs.size) { s with heap := h', toks := tk }) :
    wpAny (model prog w) A (Builtin.«zip.__next__» ⟨[.ref z], []⟩) (fun fin s' => ∃ v, fin = .done (.ret v) ∧ Q v s') E s := by
  obtain ⟨hp, g, d, tk₀, os⟩ := s
  show wpAny _ _ (field (.ref z) 2 >>= _) _ _ _
  refine wpAny_bind (wpAny_field hz rfl (x := .bool false) rfl ?_)
  show wpAny _ _ (field (.ref z) 3 >>= _) _ _ _
  refine wpAny_bind (wpAny_field hz rfl (x := .ref TI) rfl ?_)
  refine wpAny_bind (wpAny_seqItems hTI rfl ?_)
  show wpAny _ _ (Builtin.SmallTypes.ownedTupleIsFree (.ref z) >>= _) _ _ _
  refine wpAny_bind ?_
  unfold Builtin.SmallTypes.ownedTupleIsFree
  refine wpAny_bind (wpAny_field hz rfl (x := .none) rfl (wpAny_pure ?_))
  simp only [if_true]
  refine wpAny_bind (wpAny_rule ?_)
  refine wpAny_bind (wpAny_field hz rfl (x := .ref TO) rfl ?_)
  refine wpAny_bind (wpAny_setField_rec hz (by simp) fun h₁ hz₁ hs₁ => ?_)
  replace hz₁ : IsZip h₁ z TI TO .ellipsis := hz₁
  replace hs₁ : Heap.SameBut z hp h₁ := hs₁
  have s1₁ : S1 k h₁ := D1.frame _ _ _ h1 fun c hc o e => hs₁.extBut _ _ (fun q => D.z1 (q ▸ hc)) e
  have s2₁ : S2 k h₁ := D2.frame _ _ _ h2 fun c hc o e => hs₁.extBut _ _ (fun q => D.z2 (q ▸ hc)) e
  refine wpAny_bind ?_
  simp only [List.zipIdx_cons, List.zipIdx_nil, List.forIn_cons, List.forIn_nil]
  refine wpAny_bind (wpAny_bind (wpAny_onRaise ?_))
  show wpAny _ _ (Builtin.SmallTypes.nextOf (.ref i1) >>= _) _ _ _
  refine wpAny_bind (D1.item k _ _ _ l1 s1₁ fun x h₂ tk₂ hx s1₂ hs₂ => wpAny_pure ?_)
  replace hs₂ : Heap.SameBut i1 h₁ h₂ := hs₂
  have hTO₂ : IsPair h₂ TO a b := hs₂.extBut _ _ D.TOi1 (hs₁.extBut _ _ D.TOz hTO)
  refine wpAny_bind (wpAny_seqItems (s := ⟨h₂, g, d, tk₂, os⟩) hTO₂ rfl ?_)
  refine wpAny_bind (wpAny_updateSeq_pair (s := ⟨h₂, g, d, tk₂, os⟩) hTO₂ fun h₃ hTO₃ hs₃ => ?_)
  replace hTO₃ : IsPair h₃ TO x b := hTO₃
  replace hs₃ : Heap.SameBut TO h₂ h₃ := hs₃
  refine wpAny_bind (wpAny_letGo (wpAny_pure ?_))
  have s2₃ : S2 k h₃ := D2.frame _ _ _ s2₁ fun c hc o e => hs₃.extBut _ _ (fun q => D.TO2 (q ▸ hc)) (hs₂.extBut _ _ (fun q => D.i1f (q ▸ hc)) e)
  have s1₃ : S1 (k + 1) h₃ := D1.frame _ _ _ s1₂ fun c hc o e => hs₃.extBut _ _ (fun q => D.TO1 (q ▸ hc)) e
  refine wpAny_bind (wpAny_bind (wpAny_onRaise ?_))
  show wpAny _ _ (Builtin.SmallTypes.nextOf (.ref i2) >>= _) _ _ _
  refine wpAny_bind (D2.item k _ _ _ l2 s2₃ fun y h₄ tk₄ hy s2₄ hs₄ => wpAny_pure ?_)
  replace hs₄ : Heap.SameBut i2 h₃ h₄ := hs₄
  have hTO₄ : IsPair h₄ TO x b := hs₄.extBut _ _ D.TOi2 hTO₃
  refine wpAny_bind (wpAny_seqItems (s := ⟨h₄, g, d, tk₄, os⟩) hTO₄ rfl ?_)
  refine wpAny_bind (wpAny_updateSeq_pair (s := ⟨h₄, g, d, tk₄, os⟩) hTO₄ fun h₅ hTO₅ hs₅ => ?_)
  replace hTO₅ : IsPair h₅ TO x y := hTO₅
  replace hs₅ : Heap.SameBut TO h₄ h₅ := hs₅
  refine wpAny_bind (wpAny_letGo (wpAny_pure (wpAny_pure ?_)))
  refine wpAny_bind (wpAny_seqItems (s := ⟨h₅, g, d, tk₄, os⟩) hTO₅ rfl ?_)
  refine wpAny_bind (wpAny_newTuple ?_)
  have hsz : h₅.objs.size = hp.objs.size := by rw [hs₅.1, hs₄.1, hs₃.1, hs₂.1, hs₁.1]
  have hz₅ : IsZip h₅ z TI TO .ellipsis := hs₅.extBut _ _ D.TOz.symm (hs₄.extBut _ _ D.i2z.symm (hs₃.extBut _ _ D.TOz.symm (hs₂.extBut _ _ D.i1z.symm hz₁)))
  have hk₅ : ∀ c o, c ≠ z → c ≠ TO → c ≠ i1 → c ≠ i2 → hp.get? c = some o → h₅.get? c = some o := fun c o c1 c2 c3 c4 e =>
    hs₅.extBut _ _ c2 (hs₄.extBut _ _ c4 (hs₃.extBut _ _ c2 (hs₂.extBut _ _ c3 (hs₁.extBut _ _ c1 e))))
  have s1₅ : S1 (k + 1) h₅ := D1.frame _ _ _ s1₃ fun c hc o e => hs₅.extBut _ _ (fun q => D.TO1 (q ▸ hc)) (hs₄.extBut _ _ (fun q => D.i21 (q ▸ hc)) e)
  have s2₅ : S2 (k + 1) h₅ := D2.frame _ _ _ s2₄ fun c hc o e => hs₅.extBut _ _ (fun q => D.TO2 (q ▸ hc)) e
  have hzlt : z < h₅.objs.size := Heap.lt_size hz₅
  show wpAny _ _ (Builtin.SmallTypes.ownedTupleHandOut (.ref z) (.ref h₅.objs.size) >>= _) _ _ _
  refine wpAny_bind ?_
  unfold Builtin.SmallTypes.ownedTupleHandOut
  have hz₆ : IsZip (h₅.push { cls := .type "tuple", data := .seq #[x, y] }) z TI TO .ellipsis := Heap.get?_push_of_some _ hz₅
  refine wpAny_bind (wpAny_setField_rec (s := ⟨h₅.push { cls := .type "tuple", data := .seq #[x, y] }, g, d, tk₄, os⟩) hz₆ (by simp) fun h₇ hz₇ hs₇ => ?_)
  replace hz₇ : IsZip h₇ z TI TO (rawInt h₅.objs.size) := hz₇
  replace hs₇ : Heap.SameBut z (h₅.push { cls := .type "tuple", data := .seq #[x, y] }) h₇ := hs₇
  refine wpAny_setField_rec (s := ⟨h₇, g, d, tk₄, os⟩) hz₇ (by simp) fun h₈ hz₈ hs₈ => ?_
  replace hz₈ : IsZip h₈ z TI TO (rawInt h₅.objs.size) := hz₈
  replace hs₈ : Heap.SameBut z h₇ h₈ := hs₈
  have up : ∀ c o, c ≠ z → h₅.get? c = some o → h₈.get? c = some o := fun c o c1 e => hs₈.extBut _ _ c1 (hs₇.extBut _ _ c1 (Heap.get?_push_of_some _ e))
  have hT₈ : IsPair h₈ h₅.objs.size x y := hs₈.extBut _ _ (Nat.ne_of_gt hzlt) (hs₇.extBut _ _ (Nat.ne_of_gt hzlt) (Heap.get?_push_size _ rfl))
  have hz8 : h₈.objs.size = h₅.objs.size + 1 := by rw [hs₈.1, hs₇.1, Heap.size_push]
  rw [hsz] at hz₈ hT₈ hz8
  refine wpAny_pure ⟨_, rfl, ?_⟩
  show Q (.ref h₅.objs.size) _
  rw [hsz]
  exact hQ h₈ tk₄ x y hx hy hz₈ (up _ _ D.TOz hTO₅) (D1.frame _ _ _ s1₅ fun c hc o e => up _ o (fun q => D.z1 (q ▸ hc)) e) (D2.frame _ _ _ s2₅ fun c hc o e => up _ o (fun q => D.z2 (q ▸ hc)) e) hT₈ hz8 fun c o c1 c2 c3 c4 e => up c o c1 (hk₅ c o c1 c2 c3 c4 e)
theorem zipD_end {k : Nat} {a b : Value} {Q : Fin → Shared → Prop} (D : ZA z TI TO i1 i2 fp1 fp2) (D1 : Draws prog w A i1 fp1 n1 P1 S1) (D2 : Draws prog w A i2 fp2 n2 P2 S2) (hf1 : i1 ∈ fp1) (hf2 : i2 ∈ fp2)
    (hz : IsZip s.heap z TI TO .none) (hTI : IsPair s.heap TI (.ref i1) (.ref i2)) (hTO : IsPair s.heap TO a b) (h1 : S1 k s.heap) (h2 : S2 k s.heap) (hk : k = min n1 n2)
    (hE : ∀ h' tk e, (∀ c o, c ≠ z → c ≠ TO → c ≠ i1 → c ≠ i2 → s.heap.get? c = some o → h'.get? c = some o) → (∃ o, h'.get? e = some o ∧ o.cls = .type "StopIteration") → E (.ref e) { s with heap := h', toks := tk }) :
    wpAny (model prog w) A (Builtin.«zip.__next__» ⟨[.ref z], []⟩) Q E s := by
  obtain ⟨hp, g, d, tk₀, os⟩ := s
  show wpAny _ _ (field (.ref z) 2 >>= _) _ _ _
  refine wpAny_bind (wpAny_field hz rfl (x := .bool false) rfl ?_)
  show wpAny _ _ (field (.ref z) 3 >>= _) _ _ _
  refine wpAny_bind (wpAny_field hz rfl (x := .ref TI) rfl ?_)
  refine wpAny_bind (wpAny_seqItems hTI rfl ?_)
  show wpAny _ _ (Builtin.SmallTypes.ownedTupleIsFree (.ref z) >>= _) _ _ _
  refine wpAny_bind ?_
  unfold Builtin.SmallTypes.ownedTupleIsFree
  refine wpAny_bind (wpAny_field hz rfl (x := .none) rfl (wpAny_pure ?_))
  simp only [if_true]
  refine wpAny_bind (wpAny_rule ?_)
  refine wpAny_bind (wpAny_field hz rfl (x := .ref TO) rfl ?_)
  refine wpAny_bind (wpAny_setField_rec hz (by simp) fun h₁ hz₁ hs₁ => ?_)
  replace hz₁ : IsZip h₁ z TI TO .ellipsis := hz₁
  replace hs₁ : Heap.SameBut z hp h₁ := hs₁
  have s1₁ : S1 k h₁ := D1.frame _ _ _ h1 fun c hc o e => hs₁.extBut _ _ (fun q => D.z1 (q ▸ hc)) e
  have s2₁ : S2 k h₁ := D2.frame _ _ _ h2 fun c hc o e => hs₁.extBut _ _ (fun q => D.z2 (q ▸ hc)) e
  refine wpAny_bind ?_
  simp only [List.zipIdx_cons, List.zipIdx_nil, List.forIn_cons, List.forIn_nil]
  refine wpAny_bind (wpAny_bind (wpAny_onRaise ?_))
  show wpAny _ _ (Builtin.SmallTypes.nextOf (.ref i1) >>= _) _ _ _
  rcases Nat.lt_or_ge k n1 with l1 | l1
  · have hk2 : k = n2 := by omega
    refine wpAny_bind (D1.item k _ _ _ l1 s1₁ fun x h₂ tk₂ hx s1₂ hs₂ => wpAny_pure ?_)
    replace hs₂ : Heap.SameBut i1 h₁ h₂ := hs₂
    have hTO₂ : IsPair h₂ TO a b := hs₂.extBut _ _ D.TOi1 (hs₁.extBut _ _ D.TOz hTO)
    refine wpAny_bind (wpAny_seqItems (s := ⟨h₂, g, d, tk₂, os⟩) hTO₂ rfl ?_)
    refine wpAny_bind (wpAny_updateSeq_pair (s := ⟨h₂, g, d, tk₂, os⟩) hTO₂ fun h₃ hTO₃ hs₃ => ?_)
    replace hTO₃ : IsPair h₃ TO x b := hTO₃
    replace hs₃ : Heap.SameBut TO h₂ h₃ := hs₃
    refine wpAny_bind (wpAny_letGo (wpAny_pure ?_))
    have s2₃ : S2 k h₃ := D2.frame _ _ _ s2₁ fun c hc o e => hs₃.extBut _ _ (fun q => D.TO2 (q ▸ hc)) (hs₂.extBut _ _ (fun q => D.i1f (q ▸ hc)) e)
    refine wpAny_bind (wpAny_bind (wpAny_onRaise ?_))
    show wpAny _ _ (Builtin.SmallTypes.nextOf (.ref i2) >>= _) _ _ _
    rw [hk2] at s2₃
    refine wpAny_bind (D2.done _ _ _ s2₃ fun h₄ e hs₄ he => ?_)
    replace hs₄ : Heap.ExtBut i2 h₃ h₄ := hs₄
    obtain ⟨oe, hoe, hce⟩ := he
    have hz₄ : IsZip h₄ z TI TO .ellipsis := hs₄ _ _ D.i2z.symm (hs₃.extBut _ _ D.TOz.symm (hs₂.extBut _ _ D.i1z.symm hz₁))
    have hez : e ≠ z := fun x => by subst x; have hoe' : h₄.get? _ = some oe := hoe; rw [hz₄] at hoe'; cases hoe'; simp at hce
    refine wpAny_setField_rec (s := ⟨h₄, g, d, tk₂, os⟩) hz₄ (by simp) fun h₅ _ hs₅ => hE h₅ _ e (fun c o c1 c2 c3 c4 x => hs₅.extBut _ _ c1 (hs₄ _ _ c4 (hs₃.extBut _ _ c2 (hs₂.extBut _ _ c3 (hs₁.extBut _ _ c1 x))))) ⟨oe, hs₅.extBut _ _ hez hoe, hce⟩
  · have hk1 : k = n1 := by omega
    rw [hk1] at s1₁
    refine wpAny_bind (D1.done _ _ _ s1₁ fun h₂ e hs₂ he => ?_)
    replace hs₂ : Heap.ExtBut i1 h₁ h₂ := hs₂
    obtain ⟨oe, hoe, hce⟩ := he
    have hz₂ : IsZip h₂ z TI TO .ellipsis := hs₂ _ _ D.i1z.symm hz₁
    have hez : e ≠ z := fun x => by subst x; have hoe' : h₂.get? _ = some oe := hoe; rw [hz₂] at hoe'; cases hoe'; simp at hce
    refine wpAny_setField_rec (s := ⟨h₂, g, d, tk₀, os⟩) hz₂ (by simp) fun h₃ _ hs₃ => hE h₃ _ e (fun c o c1 _ c3 _ x => hs₃.extBut _ _ c1 (hs₂ _ _ c3 (hs₁.extBut _ _ c1 x))) ⟨oe, hs₃.extBut _ _ hez hoe, hce⟩
end
/-- the walk of a zip over two draws -/
theorem zipW {prog : PySem.Program} {w : World} {A : Around} {z TI TO i1 i2 : Addr} {fp1 fp2 : List Addr} {n1 n2 : Nat} {P1 P2 : Nat → Value → Prop} {S1 S2 : Nat → Heap → Prop}
    (D : ZA z TI TO i1 i2 fp1 fp2) (D1 : Draws prog w A.in1 i1 fp1 n1 P1 S1) (D2 : Draws prog w A.in1 i2 fp2 n2 P2 S2) (hf1 : i1 ∈ fp1) (hf2 : i2 ∈ fp2) :
    WalksT prog w A z (z :: TI :: TO :: (fp1 ++ fp2)) [z, TO, i1, i2] (min n1 n2) (fun i vals => ∃ x y, P1 i x ∧ P2 i y ∧ vals = #[x, y])
      (fun i h => IsZip h z TI TO .none ∧ IsPair h TI (.ref i1) (.ref i2) ∧ (∃ a b, IsPair h TO a b) ∧ S1 i h ∧ S2 i h)
      (fun i T h => IsZip h z TI TO (rawInt T) ∧ IsPair h TI (.ref i1) (.ref i2) ∧ (∃ a b, IsPair h TO a b) ∧ S1 (i + 1) h ∧ S2 (i + 1) h ∧ T ≠ z ∧ T ≠ TO ∧ T ≠ i1 ∧ T ≠ i2) where
  sub := fun c hc => by
    simp only [List.mem_cons, List.mem_nil_iff, or_false] at hc
    simp only [List.mem_cons, List.mem_append]
    rcases hc with rfl | rfl | rfl | rfl
    · exact .inl rfl
    · exact .inr (.inr (.inl rfl))
    · exact .inr (.inr (.inr (.inl hf1)))
    · exact .inr (.inr (.inr (.inr hf2)))
  frame := fun i h h' hst hk => by
    obtain ⟨hz, hTI, ⟨a, b, hTO⟩, h1, h2⟩ := hst
    exact ⟨hk z (by simp) _ hz, hk TI (by simp) _ hTI, ⟨a, b, hk TO (by simp) _ hTO⟩, D1.frame _ _ _ h1 fun c hc o e => hk c (by simp [hc]) o e, D2.frame _ _ _ h2 fun c hc o e => hk c (by simp [hc]) o e⟩
  item := fun i s Q E hi hst hQ => by
    obtain ⟨hz, hTI, ⟨a, b, hTO⟩, h1, h2⟩ := hst
    have hT : s.TypeIs (.ref z) "zip" := ⟨_, hz, rfl⟩
    have lt : ∀ {c o}, s.heap.get? c = some o → s.heap.objs.size ≠ c := fun e => Nat.ne_of_gt (Heap.lt_size e)
    have l1 := D1.live _ _ h1
    have l2 := D2.live _ _ h2
    unfold pyNext
    refine wpAny_bind (wpAny_attempt (wpAny_callSpecial?_slot (name := Str.ofString "__next__") hT F.slot_zip_next
      (wpAny_call_entry F.slot_zip_next hT F.entry_zip_next (zipD_item D D1 D2 hz hTI hTO h1 h2 (Nat.lt_of_lt_of_le hi (Nat.min_le_left ..)) (Nat.lt_of_lt_of_le hi (Nat.min_le_right ..))
        fun h' tk x y hx hy a1 a2 a3 a4 a5 a6 hk => wpAny_pure (hQ s.heap.objs.size #[x, y] h' tk ⟨_, _, hx, hy, rfl⟩ (Nat.le_refl _) ⟨_, a5, rfl, _, rfl⟩
          ⟨a1, hk _ _ D.TIz D.TITO D.TIi1 D.TIi2 hTI, ⟨_, _, a2⟩, a3, a4, lt hz, lt hTO, (by obtain ⟨_, e⟩ := l1; exact lt e), (by obtain ⟨_, e⟩ := l2; exact lt e)⟩
          fun c o hc e => hk c o (fun x => hc (by simp [x])) (fun x => hc (by simp [x])) (fun x => hc (by simp [x])) (fun x => hc (by simp [x])) e)) (F.args_zip_next_1 _))))
  go := fun elts k pos i T s Q E hm hQ => by
    obtain ⟨hz, hTI, ⟨a, b, hTO⟩, h1, h2, _⟩ := hm
    refine wpAny_letOwnedTupleGo_zip hz fun h' hz' hs' => hQ h' ⟨hz', hs'.extBut _ _ D.TIz hTI, ⟨a, b, hs'.extBut _ _ D.TOz hTO⟩, D1.frame _ _ _ h1 fun c hc o e => hs'.extBut _ _ (fun q => D.z1 (q ▸ hc)) e, D2.frame _ _ _ h2 fun c hc o e => hs'.extBut _ _ (fun q => D.z2 (q ▸ hc)) e⟩
      fun c o hc e => hs'.extBut _ _ (fun x => hc (by simp [x])) e
  apart := fun i T h hm hT => by
    obtain ⟨_, _, _, _, _, t1, t2, t3, t4⟩ := hm
    simp at hT
    rcases hT with rfl | rfl | rfl | rfl
    · exact t1 rfl
    · exact t2 rfl
    · exact t3 rfl
    · exact t4 rfl
  done := fun s Q E hst hQ => by
    obtain ⟨hz, hTI, ⟨a, b, hTO⟩, h1, h2⟩ := hst
    have hT : s.TypeIs (.ref z) "zip" := ⟨_, hz, rfl⟩
    unfold pyNext
    refine wpAny_bind (wpAny_attempt (wpAny_callSpecial?_slot (name := Str.ofString "__next__") hT F.slot_zip_next
      (wpAny_call_entry F.slot_zip_next hT F.entry_zip_next (zipD_end D D1 D2 hf1 hf2 hz hTI hTO h1 h2 rfl fun h' tk e hk he => ?_) (F.args_zip_next_1 _))))
    obtain ⟨o, ho, hc⟩ := he
    refine wpAny_bind (wpAny_isInstance (T := "StopIteration") (b := true) ⟨o, ho, hc⟩ isSubtype_stop ?_)
    exact wpAny_pure (hQ _ tk fun c o hc e => hk c o (fun x => hc (by simp [x])) (fun x => hc (by simp [x])) (fun x => hc (by simp [x])) (fun x => hc (by simp [x])) e)
  self := fun i s Q E hst hQ => wpAny_pyIter_zip hst.1 hQ
/-- an iterator is one new object -/
noncomputable def PI (v : Value) (o : Obj) (h : Heap) : Prop := ∀ (prog : PySem.Program) (w : World) (A : Around) (s : Shared) (Q : Value → Shared → Prop) (E : Value → Shared → Prop), s.heap = h → Q (.ref s.heap.objs.size) { s with heap := s.heap.push o } → wpAny (model prog w) A (pyIter v) Q E s
noncomputable abbrev zq1 (h : Heap) (o1 : Obj) : Heap := h.push o1
noncomputable abbrev zq2 (h : Heap) (o1 o2 : Obj) : Heap := (zq1 h o1).push o2
noncomputable abbrev zq3 (h : Heap) (o1 o2 : Obj) : Heap := (zq2 h o1 o2).push { cls := .type "tuple", data := .seq #[.ref h.objs.size, .ref (zq1 h o1).objs.size] }
noncomputable abbrev zq4 (h : Heap) (o1 o2 : Obj) : Heap := (zq3 h o1 o2).push { cls := .type "tuple", data := .seq #[.none, .none] }
noncomputable abbrev zq5 (h : Heap) (o1 o2 : Obj) : Heap := (zq4 h o1 o2).push { cls := .type "zip", data := .fields #[.none, .bool false, .bool false, .ref (zq2 h o1 o2).objs.size, .ref (zq3 h o1 o2).objs.size] }
theorem meets_zipQ (v1 v2 : Value) (o1 o2 : Obj) :
    Meets (Builtin.«zip.__new__» ⟨[.type "zip", v1, v2], []⟩) (fun _ R s => PI v1 o1 s.heap ∧ PI v2 o2 (s.heap.push o1) ∧
      R (.ok (.ret (.ref (zq4 s.heap o1 o2).objs.size))) { s with heap := zq5 s.heap o1 o2 }) :=
  .of_wp fun prog w A R s h => by
    obtain ⟨hp, g, d, tk, os⟩ := s; obtain ⟨hl1, hl2, h⟩ := h
    have hsub := sub_zip
    have k1 : ∀ {A' : Around} {Q : Value → Shared → Prop} {E : Value → Shared → Prop}, Q (.ref hp.objs.size) ⟨hp.push o1, g, d, tk, os⟩ → wpAny (model prog w) A' (pyIter v1) Q E ⟨hp, g, d, tk, os⟩ := fun {A' Q E} q => hl1 prog w A' ⟨hp, g, d, tk, os⟩ Q E rfl q
    have k2 : ∀ {A' : Around} {Q : Value → Shared → Prop} {E : Value → Shared → Prop}, Q (.ref (hp.push o1).objs.size) ⟨(hp.push o1).push o2, g, d, tk, os⟩ → wpAny (model prog w) A' (pyIter v2) Q E ⟨hp.push o1, g, d, tk, os⟩ := fun {A' Q E} q => hl2 prog w A' ⟨hp.push o1, g, d, tk, os⟩ Q E rfl q
    wp_walk using k1, k2
    exact ⟨_, rfl, h⟩
section
variable {prog : PySem.Program} {w : World} {A : Around} {E : Value → Shared → Prop} {s : Shared}
theorem call_zipQ {v1 v2 : Value} {o1 o2 : Obj} {Q : Value → Shared → Prop} (hl1 : PI v1 o1 s.heap) (hl2 : PI v2 o2 (s.heap.push o1)) (f1 : o1.isFreed = false) (f2 : o2.isFreed = false)
    (h : ∀ h', IsZip h' (s.heap.objs.size + 4) (s.heap.objs.size + 2) (s.heap.objs.size + 3) .none → IsPair h' (s.heap.objs.size + 2) (.ref s.heap.objs.size) (.ref (s.heap.objs.size + 1)) →
      IsPair h' (s.heap.objs.size + 3) .none .none → h'.get? s.heap.objs.size = some o1 → h'.get? (s.heap.objs.size + 1) = some o2 → h'.objs.size = s.heap.objs.size + 5 →
      (∀ c o, s.heap.get? c = some o → h'.get? c = some o) → Q (.ref (s.heap.objs.size + 4)) { s with heap := h' }) :
    wpAny (model prog w) A (call (.type "zip") [v1, v2]) Q E s := by
  refine callType_new F.called_zip (by decide) (F.typeCall_zip_2 _ _) (F.newCall_zip_2 _ _) (fun obj => F.args_object_init_3 obj _ _) F.entry_zip_new
    (meets_zipQ v1 v2 o1 o2) ⟨hl1, hl2, ?_⟩
  have z1 : (zq1 s.heap o1).objs.size = s.heap.objs.size + 1 := Heap.size_push ..
  have z2 : (zq2 s.heap o1 o2).objs.size = s.heap.objs.size + 2 := by rw [Heap.size_push, z1]
  have z3 : (zq3 s.heap o1 o2).objs.size = s.heap.objs.size + 3 := by rw [Heap.size_push, z2]
  have z4 : (zq4 s.heap o1 o2).objs.size = s.heap.objs.size + 4 := by rw [Heap.size_push, z3]
  have z5 : (zq5 s.heap o1 o2).objs.size = s.heap.objs.size + 5 := by rw [Heap.size_push, z4]
  have g5 : (zq5 s.heap o1 o2).get? (zq4 s.heap o1 o2).objs.size = some _ := Heap.get?_push_size _ rfl
  have g4 : (zq5 s.heap o1 o2).get? (zq3 s.heap o1 o2).objs.size = some _ := Heap.get?_push_of_some _ (Heap.get?_push_size _ rfl)
  have g3 : (zq5 s.heap o1 o2).get? (zq2 s.heap o1 o2).objs.size = some _ := Heap.get?_push_of_some _ (Heap.get?_push_of_some _ (Heap.get?_push_size _ rfl))
  have g2 : (zq5 s.heap o1 o2).get? (zq1 s.heap o1).objs.size = some _ := Heap.get?_push_of_some _ (Heap.get?_push_of_some _ (Heap.get?_push_of_some _ (Heap.get?_push_size _ f2)))
  have g1 : (zq5 s.heap o1 o2).get? s.heap.objs.size = some _ := Heap.get?_push_of_some _ (Heap.get?_push_of_some _ (Heap.get?_push_of_some _ (Heap.get?_push_of_some _ (Heap.get?_push_size _ f1))))
  show _ ∧ _
  rw [z2, z3, z4] at g5
  rw [z1, z2] at g3
  rw [z3] at g4
  rw [z1] at g2
  rw [z4]
  exact ⟨⟨_, g5, rfl⟩, h _ g5 g3 g4 g1 g2 z5 fun c o x =>
    Heap.get?_push_of_some _ (Heap.get?_push_of_some _ (Heap.get?_push_of_some _ (Heap.get?_push_of_some _ (Heap.get?_push_of_some _ x))))⟩
end
noncomputable abbrev itL (a : Addr) : Obj := { cls := .type "list_iterator", data := .fields #[.ref a, .int 0 0] }
noncomputable abbrev itT (a : Addr) : Obj := { cls := .type "tuple_iterator", data := .fields #[.ref a, .int 0 0] }
theorem PI.list {a : Addr} {items : Array Value} {h : Heap} (hl : h.IsList a items) : PI (.ref a) (itL a) h := fun _ _ _ _ _ _ e q => by subst e; exact wpAny_pyIter_list hl q
theorem PI.tuple {a : Addr} {items : Array Value} {h : Heap} (hl : h.IsTuple a items) : PI (.ref a) (itT a) h := fun _ _ _ _ _ _ e q => by subst e; exact wpAny_pyIter_tuple hl q
end Mine
end
section
open PySem PySem.W PyProof.Rows PySem.Calls PySem.Spec
namespace Mine
/-- tokens are never given back: a run's end has no fewer than its begin -/
theorem runs_grow {M : Model} {Γ : PySem.Ctx} {p : Pos} {t : Sem Fin} {fs : List Frame} {s s' : Shared} {e : End} (h : Runs M Γ p t fs s e s') : s.toks ≤ s'.toks := by
  induction h with
  | done | raise | yield => exact Nat.le_refl _
  | fresh _ ih => exact Nat.le_trans (Nat.le_succ _) ih
  | call _ _ ih1 ih2 => exact Nat.le_trans ih1 ih2
  | resumeFresh _ _ _ _ ih1 ih2 => exact Nat.le_trans ih1 ih2
  | resumeSuspended _ _ _ _ ih1 ih2 => exact Nat.le_trans ih1 ih2
  | segRet _ _ ih1 ih2 => exact Nat.le_trans ih1 ih2
  | segGen _ _ ih1 ih2 => exact Nat.le_trans ih1 ih2
  | segSuspGen _ _ _ _ ih1 ih2 => exact Nat.le_trans ih1 ih2
  | _ => assumption
theorem wakes_grow {M : Model} {Γ : PySem.Ctx} {p : Pos} {g : Nat} {r : Resume} {s s' : Shared} {res : GenResult} (h : Wakes M Γ p g r s res s') : s.toks ≤ s'.toks := by
  unfold Wakes at h
  split at h
  · exact h.elim
  · split at h
    · obtain ⟨e, s₁, h1, _, _, rfl⟩ := h; have z := runs_grow h1; exact z
    · rw [h.2]; exact Nat.le_refl _
    · rw [h.2]; exact Nat.le_refl _
  · obtain ⟨e, s₁, h1, _, _, rfl⟩ := h; have z := runs_grow h1; exact z
  · rw [h.2]; exact Nat.le_refl _
  · rw [h.2]; exact Nat.le_refl _
theorem wp_grow {α : Type} {M : Model} {Γ : PySem.Ctx} {Q : α → Pos → Shared → Prop} {E : Value → Pos → Shared → Prop} (t : Sem α) (n : Nat) (p : Pos) (s : Shared) (hn : n ≤ s.toks)
    (h : Sem.wp M Γ t (fun a p s' => n ≤ s'.toks → Q a p s') E p s) : Sem.wp M Γ t Q E p s := by
  revert h
  induction t generalizing p s with
  | pure x => exact fun h => h hn
  | raise v => exact id
  | unsupported | finish | yield | fork | await | register => exact id
  | rule _ k ih | «at» _ k ih | alloc _ k ih | loadIfAlive _ k ih | point _ k ih | ask k ih | os _ _ k ih | handled _ k ih | newGen _ k ih | stack k ih | thread k ih => exact ih _ _ _ hn
  | fresh k ih => exact ih _ _ _ (Nat.le_succ_of_le hn)
  | load a _ k ih | genState a k ih => exact fun ⟨o, ho, h⟩ => ⟨o, ho, ih _ _ _ hn h⟩
  | update a _ f k ih | choose _ _ k ih => exact fun ⟨ha, h⟩ => ⟨ha, ih _ _ _ hn h⟩
  | call c h g l k ih => exact fun ⟨r, s', hr, h⟩ => ⟨r, s', hr, ih r p s' (Nat.le_trans hn (runs_grow hr)) h⟩
  | resume g r l k ih => exact fun ⟨res, s', hw, h⟩ => ⟨res, s', hw, ih _ _ _ (Nat.le_trans hn (wakes_grow hw)) h⟩
theorem wpAny_grow {α : Type} {M : Model} {A : Around} {t : Sem α} {Q : α → Shared → Prop} {E : Value → Shared → Prop} {s : Shared} (h : wpAny M A t (fun v s' => s.toks ≤ s'.toks → Q v s') E s) : wpAny M A t Q E s :=
  fun Γ p hΓ => wp_grow t s.toks p s (Nat.le_refl _) (h Γ p hΓ)
/-- no reader has booked a token -/
theorem not_booked {K : Frag} {M : Model} {A : Around} {Q : Bool → Shared → Prop} {E : Value → Shared → Prop} {s : Shared} {t : Tok} (X : K.In s.heap) (e : nsIn K cStatics sharingNotToldKey = some none) (h : Q false s) : wpAny M A (sharingNotTold t) Q E s := by
  unfold sharingNotTold
  exact wpAny_bind (looks_nsIn X e A _ E s (fun _ _ e => e) (wpAny_pure h))
theorem same_float {K : Frag} {M : Model} {A : Around} {Q : Bool → Shared → Prop} {E : Value → Shared → Prop} {s : Shared} {x y : UInt64} {t u : Tok} (X : K.In s.heap) (e : nsIn K cStatics sharingNotToldKey = some none) (ht : t ≠ 0) (hu : u ≠ 0) (htu : t = u → x = y)
    (h : ∀ b, (b = true → x = y) → Q b s) : wpAny M A (isSame (.float x t) (.float y u)) Q E s := by
  show wpAny M A (isSame.created (x == y && !Float64.isNaN x) t u) Q E s
  unfold isSame.created
  refine wpAny_ite_split (fun c => ?_) (fun _ => wpAny_ite_split (fun c => ?_) (fun _ => wpAny_ite_split (fun c => ?_) (fun c => ?_)))
  · rcases (Bool.or_eq_true _ _).mp c with c | c
    · exact absurd (eq_of_beq c) ht
    · exact absurd (eq_of_beq c) hu
  · exact wpAny_pure (h _ fun _ => htu (eq_of_beq c))
  · exact wpAny_pure (h _ fun e => absurd e Bool.false_ne_true)
  · have hxy : x = y := by
      rw [Bool.not_eq_true, Bool.not_eq_false', Bool.and_eq_true] at c
      exact eq_of_beq c.1
    refine wpAny_bind (not_booked X e (wpAny_ite_split (fun c => absurd c Bool.false_ne_true) fun _ => ?_))
    refine wpAny_bind (not_booked X e (wpAny_ite_split (fun c => absurd c Bool.false_ne_true) fun _ => ?_))
    exact wpAny_bind (wpAny_rule (wpAny_bind (wpAny_askSetting (wpAny_pure (h _ fun _ => hxy)))))
end Mine
end
section
open PySem PySem.W PyProof.Rows PySem.Calls PySem.Spec PyProof.Rows.LCg
open PyProof.V
set_option maxRecDepth 100000
namespace Mine
noncomputable abbrev VF := Tok → Value
noncomputable def MEnd (h₀ : Heap) (L : Addr) (m : PySem.Str → Option Value) (s₁ : Shared) (C : Addr) (oC : Obj) (D : Addr) (oD : Obj) (its keep : Led) (rest : Nat → Value → Led → Prop) (y : Value) (s₂ : Shared) : Prop :=
  ∀ G : Prop, (∀ h' tk news', s₂ = { s₁ with heap := h', toks := tk } → Fr h₀ L h' m → News h₀ L h' ((C, oC) :: (D, oD) :: (news' ++ its)) → (∀ p ∈ news', p.1 ≠ C ∧ p.1 ≠ D) → (∀ p ∈ news', ∀ q ∈ its, p.1 ≠ q.1) → (∀ p ∈ keep, p ∈ news') → rest tk y news' → G) → G
theorem MEnd.intro {h₀ : Heap} {L C D : Addr} {m : PySem.Str → Option Value} {s₁ : Shared} {oC oD : Obj} {its keep : Led} {rest : Nat → Value → Led → Prop} {y : Value} {h' : Heap} {tk : Nat} {all : Led}
    (F : Fr h₀ L h' m) (N : News h₀ L h' all) (news' : Led) (sub : ∀ p ∈ (C, oC) :: (D, oD) :: (news' ++ its), p ∈ all) (off : ∀ p ∈ news', p.1 ≠ C ∧ p.1 ≠ D) (offI : ∀ p ∈ news', ∀ q ∈ its, p.1 ≠ q.1) (hk : ∀ p ∈ keep, p ∈ news') (r : rest tk y news') :
    MEnd h₀ L m s₁ C oC D oD its keep rest y { s₁ with heap := h', toks := tk } := fun _ k => k h' tk news' rfl F (fun p hp => N p (sub p hp)) off offI hk r
noncomputable abbrev tl : Option PySem.Expr → List PySem.Expr
  | none => []
  | some c => [c]
noncomputable def MBody (prog : PySem.Program) (w : World) (A : Around) (ct : Option PySem.Expr) (elt : PySem.Expr) (cenv : Env) (Endy : Value → Shared → Prop) (Endn : Value → Shared → Prop) (E : Value → Shared → Prop) (s : Shared) : Prop :=
  match ct with
  | none => wpAny (model prog w) A (eval elt cenv) Endy E s
  | some c => wpAny (model prog w) A (isTrue c cenv (eval c cenv)) (fun ok s' => if ok = true then wpAny (model prog w) A (eval elt cenv) Endy E s' else Endn .none s') E s
noncomputable def MRest (prog : PySem.Program) (w : World) (A : Around) (h₀ : Heap) (L : Addr) (m : PySem.Str → Option Value) (env : Env) (ct : Option PySem.Expr) (elt : PySem.Expr) (a b : PySem.Str) (scope : Scope) (cl : List (PySem.Str × Addr)) (s : Shared) (its0 : Led → Prop) (keep : Led)
    (Fin : Nat → List Value → Led → Prop) : List (VF × VF) → Nat → List Value → Led → Prop
  | [], n, ys, news => Fin n ys news
  | p :: r, n, ys, news => ∀ (t u : Tok) its C oC D m₂ h tk (E' : Value → Shared → Prop), n ≤ tk → its0 its → NsObj oC m₂ → m₂ a = some (p.1 t) → m₂ b = some (p.2 u) → Fr h₀ L h m → News h₀ L h ((C, oC) :: (D, lst ys) :: (news ++ its)) →
      (∀ q ∈ news, q.1 ≠ C ∧ q.1 ≠ D) → (∀ q ∈ news, ∀ z ∈ its, q.1 ≠ z.1) → (∀ q ∈ its, q.1 ≠ C ∧ q.1 ≠ D) → (@Ne Nat C D) →
      MBody prog w A ct elt (compEnvC scope cl C env) (MEnd h₀ L m { s with heap := h, toks := tk } C oC D (lst ys) its keep (fun k y news' => MRest prog w A h₀ L m env ct elt a b scope cl s its0 keep Fin r k (ys ++ [y]) news'))
        (MEnd h₀ L m { s with heap := h, toks := tk } C oC D (lst ys) its keep (fun k _ news' => MRest prog w A h₀ L m env ct elt a b scope cl s its0 keep Fin r k ys news')) E' { s with heap := h, toks := tk }
noncomputable def McI (h₀ : Heap) (L : Addr) (m : PySem.Str → Option Value) (s₂ : Shared) (C D : Addr) (n : Nat) (St : Nat → Heap → Prop) (ws : List (Addr × String)) (keep : Led) (xs : List (VF × VF)) (rest : List (VF × VF) → Nat → List Value → Led → Prop) (k : Nat) (s' : Shared) : Prop :=
  ∀ G : Prop, (∀ h' tk nn i ys m' news', s' = { s₂ with heap := h', toks := tk } → nn ≤ tk → i ≤ n → k = n + 1 - i → ys.length ≤ i → St i h' → Fr h₀ L h' m → h'.Ns C m' →
    News h₀ L h' ((D, lst ys) :: news') → (∀ p ∈ news', p.1 ≠ C ∧ p.1 ≠ D) → (∀ p ∈ news', p.1 ∉ ws.map (·.1)) → (∀ p ∈ keep, p ∈ news') → rest (xs.drop i) nn ys news' → G) → G
section
variable {prog : PySem.Program} {w : World} {A : Around} {E : Value → Shared → Prop} {s : Shared} {h₀ : Heap} {L : Addr} {m : PySem.Str → Option Value} {env : Env}
theorem MBody_mono {ct : Option PySem.Expr} {elt : PySem.Expr} {cenv : Env} {P P' : Value → Shared → Prop} {R R' : Value → Shared → Prop} {E' : Value → Shared → Prop} {s : Shared} (h : MBody prog w A ct elt cenv P R E' s) (hP : ∀ y s, P y s → P' y s) (hR : ∀ s, R .none s → R' .none s) : MBody prog w A ct elt cenv P' R' E' s := by
  cases ct with
  | none => exact wpAny_mono h hP fun _ _ e => e
  | some c =>
    refine wpAny_mono h (fun ok s' q => ?_) fun _ _ e => e
    cases ok with
    | true => simp only [if_true] at q ⊢; exact wpAny_mono q hP fun _ _ e => e
    | false => simp only [Bool.false_eq_true, if_false] at q ⊢; exact hR _ q
theorem mc_loop {elt target iter : PySem.Expr} {ct : Option PySem.Expr} {scope : Scope} {pos : Pos} {it acc : Value} {env : Env} {R : Result → Shared → Prop} (I : Nat → Shared → Prop)
    (turn : ∀ n s, I n s → wpAny (model prog w) A (pyNext it) (fun r s₁ => match r with
      | none => R (.ok .next) s₁
      | some v => wpAny (model prog w) A (letOwnedTupleGo target it v) (fun _ s₀ => wpAny (model prog w) A (assign target env v) (fun _ s₂ =>
          MBody prog w A ct elt env (fun x s₄ =>
            wpAny (model prog w) A (call (.builtin "list.append") [acc, x]) (fun _ s₅ => ∃ m, m < n ∧ I m s₅) (notedBy (model prog w) A env fun e s' => R (.error e) s') s₄) (fun _ s₅ => ∃ m, m < n ∧ I m s₅) (notedBy (model prog w) A env fun e s' => R (.error e) s') s₂)
          (notedBy (model prog w) A env fun e s' => R (.error e) s') s₀) (notedBy (model prog w) A env fun e s' => R (.error e) s') s₁) (notedBy (model prog w) A env fun e s' => R (.error e) s') s)
    (n : Nat) (h : I n s) : codeAny (model prog w) A (.compLoop (.ListComp elt [⟨target, iter, tl ct, 0⟩] scope pos) 0 it acc env) R s := by
  cases ct with
  | none => exact kcp_loop I turn n h
  | some c => exact kct_loop I turn n h
theorem mc_block {elt iter : PySem.Expr} {ct : Option PySem.Expr} {a b : PySem.Str} {pa pb tp : Pos} {kk : Nat} {scope : Scope} {cl : List (PySem.Str × Addr)} {pos : Pos} {s₂ : Shared} {I : Addr} {fp wr : List Addr} {n : Nat} {P Md : Nat → Value → Heap → Prop} {St : Nat → Heap → Prop} {ws : List (Addr × String)} {keep : Led} {xs : List (VF × VF)} {news : Led}
    {Fin : Nat → List Value → Led → Prop} {RR : Value → Addr → Result → Shared → Prop}
    (hh : A.handled = none) (W : KTurns prog w A (.Tuple [.Name a pa, .Name b pb] kk tp) I fp wr n P Md St) (hn : xs.length = n) (hsz : n ≤ sizeLine)
    (hxs : ∀ i v h, P i v h → ∃ p T t u, xs[i]? = some p ∧ v = .ref T ∧ h.IsTuple T #[p.1 t, p.2 u])
    (hself : ∀ h (s' : Shared) (Q : Value → Shared → Prop) (E : Value → Shared → Prop), s'.heap = h → St 0 h → Q (.ref I) s' → wpAny (model prog w) A (pyIter (.ref I)) Q E s')
    (hobj : ∀ i h, St i h → ∃ its, Objs ws its ∧ ∀ p ∈ its, h.get? p.1 = some p.2)
    (hws : ∀ b ∈ ws.map (·.1), b ∈ fp ∧ h₀.get? b = none) (hwr : ∀ b ∈ wr, b ∈ ws.map (·.1))
    (hfp : ∀ b ∈ fp, b ∈ ws.map (·.1) ∨ ∃ o, (b, o) ∈ keep) (hL : L ∉ fp) (hnw : ∀ p ∈ news, p.1 ∉ ws.map (·.1)) (hst : St 0 s₂.heap) (hfl : ∀ b ∈ fp, b < s₂.heap.objs.size)
    (F : Fr h₀ L s₂.heap m) (N : News h₀ L s₂.heap news) (hk : ∀ p ∈ keep, p ∈ news)
    (hcell : ∀ y ∈ scope.names, y.2 ≠ .cell) (hkind : scope.kind = .function) (hxa : scope.names.lookup a = some .local) (hxb : scope.names.lookup b = some .local) (hab : ¬ a = b)
    (R : MRest prog w A h₀ L m env ct elt a b scope cl s₂ (Objs ws) keep Fin xs s₂.toks [] news)
    (hRR : ∀ nn D C h tk m' ys news', nn ≤ tk → Fr h₀ L h m → News h₀ L h ((D, lst ys) :: news') → (∀ p ∈ news', p.1 ≠ D) → (∀ p ∈ news, p.1 < D) → h.Ns C m' → h₀.get? C = none → h₀.get? D = none → C ≠ L → D ≠ L → C ≠ D → (∀ p ∈ news', p.1 ≠ C) → Fin nn ys news' → RR (.ref D) C (.ok .next) { s₂ with heap := h, toks := tk }) :
    wpAny (model prog w) A (newList []) (fun acc s₃ => wpAny (model prog w) A (newFunctionEnv scope env.globals cl [] env.qual none .none (some env)) (fun cenv s₄ =>
      codeAny (model prog w) A (.compStart (.ListComp elt [⟨.Tuple [.Name a pa, .Name b pb] kk tp, iter, tl ct, 0⟩] scope pos) 0 (.ref I) acc { cenv with scope := relabel scope env }) (RR acc cenv.locals) s₄) E s₃) E s₂ := by
  refine wpAny_newObj_type (wpAny_newFunctionEnv hcell (by intro y hy; simp at hy) (fun h₁ hns₁ hsb₁ => ?_) hkind)
  dsimp only at hns₁ hsb₁ ⊢
  generalize hH2 : s₂.heap.push { cls := .type "list", dict := none, data := .seq ([] : List Value).toArray } = H2 at hns₁ hsb₁ ⊢
  have hC : H2.objs.size = s₂.heap.objs.size + 1 := by rw [← hH2, Heap.size_push]
  have hDC : s₂.heap.objs.size ≠ H2.objs.size := by rw [hC]; exact Nat.ne_of_lt (Nat.lt_succ_self _)
  have below : ∀ b, b < s₂.heap.objs.size → b ≠ H2.objs.size ∧ b ≠ s₂.heap.objs.size := fun b hb => ⟨by rw [hC]; exact Nat.ne_of_lt (Nat.lt_succ_of_lt hb), Nat.ne_of_lt hb⟩
  have old : ∀ b o, s₂.heap.get? b = some o → h₁.get? b = some o := fun b o e => hsb₁.extBut b o (below b (Heap.lt_size e)).1 (Heap.get?_push_of_some _ (hH2 ▸ Heap.get?_push_of_some _ e))
  have hacc : h₁.get? s₂.heap.objs.size = some (lst []) := hsb₁.extBut _ _ hDC (Heap.get?_push_of_some _ (hH2 ▸ Heap.get?_push_size _ rfl))
  have hst₁ : St 0 h₁ := W.frame _ _ _ hst fun b _ o e => old b o e
  have fresh₀ : ∀ a, s₂.heap.objs.size ≤ a → h₀.get? a = none := fun a ha => by
    cases e : h₀.get? a with
    | none => rfl
    | some o' => exact absurd (Heap.lt_size (F.keep a o' e)) (Nat.not_lt.mpr ha)
  have hD₀ : h₀.get? s₂.heap.objs.size = none := fresh₀ _ (Nat.le_refl _)
  have hC₀ : h₀.get? H2.objs.size = none := fresh₀ _ (by rw [hC]; exact Nat.le_succ _)
  have hLlt : L < s₂.heap.objs.size := F.ns.lt
  have hDL : s₂.heap.objs.size ≠ L := Ne.symm (below L hLlt).2
  have hCL : H2.objs.size ≠ L := Ne.symm (below L hLlt).1
  have hCf : H2.objs.size ∉ fp := fun hm => (below _ (hfl _ hm)).1 rfl
  have hDf : s₂.heap.objs.size ∉ fp := fun hm => (below _ (hfl _ hm)).2 rfl
  have hwf : ∀ b ∈ wr, b ∈ fp := W.sub
  have hCw : H2.objs.size ∉ wr := fun hm => hCf (hwf _ hm)
  have hDw : s₂.heap.objs.size ∉ wr := fun hm => hDf (hwf _ hm)
  have hLw : L ∉ wr := fun hm => hL (hwf _ hm)
  have offW : ∀ its, Objs ws its → ∀ q ∈ its, q.1 ∈ ws.map (·.1) := fun its hi q hq => by rw [← hi.map]; exact List.mem_map_of_mem hq
  have offCD : ∀ its, Objs ws its → ∀ q ∈ its, q.1 ≠ H2.objs.size ∧ q.1 ≠ s₂.heap.objs.size := fun its hi q hq => below _ (hfl _ (hws _ (offW its hi q hq)).1)
  have loop : ∀ s₃ : Shared, s₃ = { s₂ with heap := h₁, toks := s₂.toks + ([] : List (PySem.Str × Value)).length } →
      codeAny (model prog w) A (.compLoop (.ListComp elt [⟨.Tuple [.Name a pa, .Name b pb] kk tp, iter, tl ct, 0⟩] scope pos) 0 (.ref I) (.ref s₂.heap.objs.size) (compEnvC scope cl H2.objs.size env))
        (RR (.ref s₂.heap.objs.size) H2.objs.size) s₃ := by
    rintro s₃ rfl
    refine mc_loop
      (McI h₀ L m s₂ H2.objs.size s₂.heap.objs.size n St ws keep xs (MRest prog w A h₀ L m env ct elt a b scope cl s₂ (Objs ws) keep Fin)) ?_ (n + 1)
      (fun _ kk => kk h₁ _ s₂.toks 0 [] _ news rfl (Nat.le_add_right _ _) (Nat.zero_le _) rfl (Nat.le_refl _) hst₁ (F.keeps old) hns₁ (fun p hp => ?_) (fun p hp => below _ (Heap.lt_size (N p hp).1)) hnw hk (by rw [List.drop_zero]; exact R))
    · intro k s' hI
      refine hI _ ?_
      clear hI
      rintro h' tk nn i ys m' news' rfl hge hi rfl hyl hst' F' hn' N' offN offI hk' R'
      by_cases hlt : i < n
      · refine wpAny_grow (W.item i _ _ _ hlt hst' fun v h₂ tk₂ hMd hk₂ => ?_)
        intro hg₂
        replace hg₂ : nn ≤ tk₂ := Nat.le_trans hge hg₂
        refine W.go i v _ _ _ hMd fun h₃ hP hst₃ hk₃ => ?_
        obtain ⟨p, T, t, u, hp, rfl, hT⟩ := hxs i v h₃ hP
        have up₃ : ∀ c o, c ∉ wr → h'.get? c = some o → h₃.get? c = some o := fun c o hc e => hk₃ c o hc (hk₂ c o hc e)
        refine wpAny_grow (kcp_assign (env := compEnvC scope cl H2.objs.size env) hh hT (lookup_relabel_local hxa) (lookup_relabel_local hxb) (by simp [compEnvC, relabel, hkind]) (hn'.at' fun o e => up₃ _ o hCw e) fun h₄ tk₄ hn₄ hs₄ => ?_)
        intro hg₄
        replace hg₄ : nn ≤ tk₄ := Nat.le_trans hg₂ hg₄
        have up : ∀ c o, c ∉ wr → c ≠ H2.objs.size → h'.get? c = some o → h₄.get? c = some o := fun c o h1 h2 e => hs₄ c o h2 (up₃ c o h1 e)
        have hst₄ : St (i + 1) h₄ := W.frame _ _ _ hst₃ fun b hb o e => hs₄ b o (fun q => hCf (by have q' : b = H2.objs.size := q; rw [← q']; exact hb)) e
        obtain ⟨its, hits, hget⟩ := hobj _ _ hst₄
        obtain ⟨oC, heC, hoC⟩ := ns_obj hn₄
        have none_wr : ∀ c ∈ wr, h₀.get? c = none := fun c hc => (hws c (hwr c hc)).2
        have F₄ : Fr h₀ L h₄ m := ⟨F'.ns.at' fun o e => up _ o hLw (Ne.symm hCL) e, fun c o e => up c o (fun q => by rw [none_wr c q] at e; cases e) (fun q => by rw [q, hC₀] at e; cases e) (F'.keep c o e), F'.above⟩
        have hdrop : xs.drop i = p :: xs.drop (i + 1) := by
          have hlt' : i < xs.length := by rw [hn]; exact hlt
          rw [List.drop_eq_getElem_cons hlt']
          congr 1
          exact Option.some.inj ((List.getElem?_eq_getElem hlt').symm.trans hp)
        have R'' : MRest prog w A h₀ L m env ct elt a b scope cl s₂ (Objs ws) keep Fin (p :: xs.drop (i + 1)) nn ys news' := by rw [← hdrop]; exact R'
        have N₄ : News h₀ L h₄ ((H2.objs.size, oC) :: (s₂.heap.objs.size, lst ys) :: (news' ++ its)) := fun q hq => by
          rcases List.mem_cons.mp hq with rfl | hq
          · exact ⟨heC, hCL, hC₀⟩
          · rcases List.mem_cons.mp hq with rfl | hq
            · have z := N' _ List.mem_cons_self
              exact ⟨up _ _ hDw hDC z.1, z.2⟩
            · rcases List.mem_append.mp hq with hq | hq
              · have z := N' q (List.mem_cons_of_mem _ hq)
                exact ⟨up _ _ (fun q' => offI q hq (hwr _ q')) (offN q hq).1 z.1, z.2⟩
              · refine ⟨hget q hq, fun q' => hL ?_, (hws _ (offW its hits q hq)).2⟩
                rw [← q']; exact (hws _ (offW its hits q hq)).1
        have oIN : ∀ q ∈ news', ∀ z ∈ its, q.1 ≠ z.1 := fun q hq z hz e => offI q hq (e ▸ offW its hits z hz)
        have fin : ∀ (ys' : List Value), (ys' = ys ∨ ys'.length = ys.length + 1) → ∀ h₅ tk₅ news₅, Fr h₀ L h₅ m → News h₀ L h₅ ((H2.objs.size, oC) :: (s₂.heap.objs.size, lst ys') :: (news₅ ++ its)) → (∀ p ∈ news₅, p.1 ≠ H2.objs.size ∧ p.1 ≠ s₂.heap.objs.size) → (∀ p ∈ news₅, ∀ q ∈ its, p.1 ≠ q.1) → (∀ p ∈ keep, p ∈ news₅) → MRest prog w A h₀ L m env ct elt a b scope cl s₂ (Objs ws) keep Fin (xs.drop (i + 1)) tk₅ ys' news₅ →
            ∃ k', k' < n + 1 - i ∧ McI h₀ L m s₂ H2.objs.size s₂.heap.objs.size n St ws keep xs (MRest prog w A h₀ L m env ct elt a b scope cl s₂ (Objs ws) keep Fin) k' { s₂ with heap := h₅, toks := tk₅ } := by
          intro ys' hys h₅ tk₅ news₅ F₅ N₅ off₅ offI₅ hk₅ R₅
          have hst₅ : St (i + 1) h₅ := W.frame _ _ _ hst₄ fun c hc o e => by
            rcases hfp c hc with hc | ⟨o', hc⟩
            · have hc' : c ∈ its.map (·.1) := by rw [hits.map]; exact hc
              obtain ⟨q, hq, hqe⟩ := List.mem_map.mp hc'
              have hqe' : q.1 = c := hqe
              subst hqe'
              have e' := hget q hq
              rw [e] at e'
              cases e'
              exact (N₅ q (by simp [hq])).1
            · have e' := (N₄ (c, o') (by simp [hk' _ hc])).1
              have e'' : h₄.get? c = some o' := e'
              rw [e] at e''
              cases e''
              exact (N₅ (c, o) (by simp [hk₅ _ hc])).1
          refine ⟨n + 1 - (i + 1), by omega, fun _ kk => kk h₅ tk₅ tk₅ (i + 1) ys' _ news₅ rfl (Nat.le_refl _) hlt rfl ?_ hst₅ F₅ (hoC.ns (N₅ _ List.mem_cons_self).1) (fun q hq => ?_) off₅ (fun q hq hq' => ?_) hk₅ R₅⟩
          · rcases hys with rfl | hys
            · exact Nat.le_succ_of_le hyl
            · rw [hys]; exact Nat.succ_le_succ hyl
          · rcases List.mem_cons.mp hq with rfl | hq
            · exact N₅ _ (List.mem_cons_of_mem _ List.mem_cons_self)
            · exact N₅ _ (by simp [hq])
          · have hc' : q.1 ∈ its.map (·.1) := by rw [hits.map]; exact hq'
            obtain ⟨z, hz, hze⟩ := List.mem_map.mp hc'
            exact offI₅ q hq z hz hze.symm
        refine MBody_mono (R'' t u its H2.objs.size oC s₂.heap.objs.size _ h₄ _ _ hg₄ hits hoC (by simp [hab]) (by simp) F₄ N₄ offN oIN (offCD its hits) (Ne.symm hDC)) (fun y s₅ h₅ => ?_) (fun s₅ h₅ => ?_)
        · refine h₅ _ ?_
          clear h₅
          rintro h₅ tk₅ news₅ rfl F₅ N₅ off₅ offI₅ hk₅ R₅
          have zD := (N₅ (s₂.heap.objs.size, lst ys) (List.mem_cons_of_mem _ List.mem_cons_self)).1
          refine append_at (hsz := by show ys.toArray.size ≤ sizeLine; rw [List.size_toArray]; exact Nat.le_trans hyl (Nat.le_trans hi hsz)) zD fun h₆ hs₆ hD₆ => ?_
          refine fin (ys ++ [y]) (.inr (by simp)) h₆ tk₅ news₅ (F₅.change hs₆ hDL hD₀) (fun q hq => ?_) off₅ offI₅ hk₅ R₅
          rcases List.mem_cons.mp hq with rfl | hq
          · have z := N₅ _ List.mem_cons_self
            exact ⟨hs₆.extBut _ _ (Ne.symm hDC) z.1, z.2⟩
          · rcases List.mem_cons.mp hq with rfl | hq
            · exact ⟨hD₆.trans (congrArg some (lst_snoc ys y)), hDL, hD₀⟩
            · have z := N₅ q (List.mem_cons_of_mem _ (List.mem_cons_of_mem _ hq))
              refine ⟨hs₆.extBut _ _ ?_ z.1, z.2⟩
              rcases List.mem_append.mp hq with hq | hq
              · exact (off₅ q hq).2
              · exact (offCD its hits q hq).2
        · refine h₅ _ ?_
          clear h₅
          rintro h₅ tk₅ news₅ rfl F₅ N₅ off₅ offI₅ hk₅ R₅
          exact fin ys (.inl rfl) h₅ tk₅ news₅ F₅ N₅ off₅ offI₅ hk₅ R₅
      · have hin : i = n := Nat.le_antisymm hi (Nat.not_lt.mp hlt)
        subst hin
        have hnil : xs.drop i = [] := List.drop_eq_nil_of_le (Nat.le_of_eq hn)
        rw [hnil] at R'
        refine wpAny_grow (W.done _ _ _ hst' fun h₂ tk₂ hk₂ => ?_)
        intro hg₂
        have none_wr : ∀ c ∈ wr, h₀.get? c = none := fun c hc => (hws c (hwr c hc)).2
        refine hRR nn _ _ h₂ tk₂ _ ys news' (Nat.le_trans hge hg₂) ⟨F'.ns.at' fun o e => hk₂ _ o hLw e, fun c o e => hk₂ c o (fun q => by rw [none_wr c q] at e; cases e) (F'.keep c o e), F'.above⟩ (fun q hq => ?_) (fun q hq => (offN q hq).2) (fun q hq => Heap.lt_size (N q hq).1) (hn'.at' fun o e => hk₂ _ o hCw e) hC₀ hD₀ hCL hDL (Ne.symm hDC) (fun q hq => (offN q hq).1) R'
        have z := N' q hq
        refine ⟨hk₂ _ _ (fun q' => ?_) z.1, z.2⟩
        rcases List.mem_cons.mp hq with rfl | hq
        · exact hDw q'
        · exact offI q hq (hwr _ q')
    · rcases List.mem_cons.mp hp with rfl | hp
      · exact ⟨hacc, hDL, hD₀⟩
      · exact ⟨old _ _ (N p hp).1, (N p hp).2⟩
  exact codeAny_compStart_list (loop _ rfl) (hself h₁ _ _ _ rfl hst₁ (loop _ rfl))

noncomputable def McAt (prog : PySem.Program) (w : World) (A : Around) (h₀ : Heap) (L : Addr) (m : PySem.Str → Option Value) (env : Env) (ct : Option PySem.Expr) (elt : PySem.Expr) (a b : PySem.Str) (pa pb tp : Pos) (kk : Nat) (scope : Scope) (cl : List (PySem.Str × Addr)) (Fin : Shared → Led → Nat → List Value → Led → Prop) (it : Value) (s₂ : Shared) : Prop :=
  ∀ (iter : PySem.Expr) (pos : Pos) (E : Value → Shared → Prop) (RR : Value → Addr → Result → Shared → Prop), (∀ y ∈ scope.names, y.2 ≠ .cell) → scope.kind = .function → scope.names.lookup a = some .local → scope.names.lookup b = some .local → (¬ a = b) →
    (∀ news nn D C h tk m' ys news', nn ≤ tk → Fr h₀ L h m → News h₀ L h ((D, lst ys) :: news') → (∀ p ∈ news', p.1 ≠ D) → (∀ p ∈ news, p.1 < D) → h.Ns C m' → h₀.get? C = none → h₀.get? D = none → C ≠ L → D ≠ L → C ≠ D → (∀ p ∈ news', p.1 ≠ C) → Fin s₂ news nn ys news' → RR (.ref D) C (.ok .next) { s₂ with heap := h, toks := tk }) →
    wpAny (model prog w) A (newList []) (fun acc s₃ => wpAny (model prog w) A (newFunctionEnv scope env.globals cl [] env.qual none .none (some env)) (fun cenv s₄ =>
      codeAny (model prog w) A (.compStart (.ListComp elt [⟨.Tuple [.Name a pa, .Name b pb] kk tp, iter, tl ct, 0⟩] scope pos) 0 it acc { cenv with scope := relabel scope env }) (RR acc cenv.locals) s₄) E s₃) E s₂
noncomputable def MFinE (h₀ : Heap) (L : Addr) (m : PySem.Str → Option Value) (Q : Value → Shared → Prop) (s : Shared) (news₀ : Led) (nn : Nat) (ys : List Value) (news : Led) : Prop :=
  ∀ D h tk, nn ≤ tk → Fr h₀ L h m → News h₀ L h ((D, lst ys) :: news) → (∀ p ∈ news, p.1 ≠ D) → (∀ p ∈ news₀, p.1 < D) → Q (.ref D) { s with heap := h, toks := tk }
noncomputable def MFinA (h₀ : Heap) (L : Addr) (m : PySem.Str → Option Value) (y : PySem.Str) (Q : Flow → Shared → Prop) (s : Shared) (news₀ : Led) (nn : Nat) (ys : List Value) (news : Led) : Prop :=
  ∀ D h tk, nn ≤ tk → Fr h₀ L h (fun z => if z = y then some (.ref D) else m z) → News h₀ L h ((D, lst ys) :: news) → (∀ p ∈ news, p.1 ≠ D) → (∀ p ∈ news₀, p.1 < D) → Q .next { s with heap := h, toks := tk }
theorem mc_List {elt iter : PySem.Expr} {ct : Option PySem.Expr} {a b : PySem.Str} {pa pb tp : Pos} {kk : Nat} {scope : Scope} {cl : List (PySem.Str × Addr)} {pos : Pos} {Q : Value → Shared → Prop} (_F₀ : Fr h₀ L s.heap m)
    (hclos : closureFor scope env = pure cl) (hcell : ∀ y ∈ scope.names, y.2 ≠ .cell) (hkind : scope.kind = .function)
    (hnames : ∀ y ∈ scope.names, y.2 = .local → scope.names.lookup y.1 = some .local) (hxa : scope.names.lookup a = some .local) (hxb : scope.names.lookup b = some .local) (hab : ¬ a = b)
    (h : wpAny (model prog w) A (eval iter env) (fun xv s₁ => wpAny (model prog w) A (pyIter xv) (fun it s₂ => McAt prog w A h₀ L m env ct elt a b pa pb tp kk scope cl (MFinE h₀ L m Q) it s₂) E s₁) E s)
    (hs : ∀ x, foldedSetIterable iter env x = pure x := by intro _; rfl) :
    wpAny (model prog w) A (eval (.ListComp elt [⟨.Tuple [.Name a pa, .Name b pb] kk tp, iter, tl ct, 0⟩] scope pos) env) Q E s := by
  rw [eval_ListComp]
  refine wpAny_comprehension_free (use := none) rfl hs hclos hkind hnames (wpAny_mono h (fun xv s₁ h₁ => wpAny_mono h₁ (fun it s₂ h₂ => ?_) fun _ _ e => e) fun _ _ e => e)
  refine h₂ _ _ _ _ hcell hkind hxa hxb hab ?_
  intro _ nn D C h tk m' ys news' hge F' N' o1 o2 hn hC₀ hD₀ hCL hDL hCD offC fin
  refine ⟨m', hn, fun h'' hs'' => fin D h'' tk hge (F'.change hs'' hCL hC₀) (fun p hp => ?_) o1 o2⟩
  refine ⟨hs''.extBut _ _ ?_ (N' p hp).1, (N' p hp).2⟩
  rcases List.mem_cons.mp hp with rfl | hp
  · exact Ne.symm hCD
  · exact offC p hp
theorem mc_Assign {elt iter : PySem.Expr} {ct : Option PySem.Expr} {a b y : PySem.Str} {pa pb tp py : Pos} {kk : Nat} {scope : Scope} {cl : List (PySem.Str × Addr)} {pos spos : Pos} {Q : Flow → Shared → Prop} (_F₀ : Fr h₀ L s.heap m) (hLe : env.locals = L)
    (hsw : swapsWith (.ListComp elt [⟨.Tuple [.Name a pa, .Name b pb] kk tp, iter, tl ct, 0⟩] scope pos) (some (.Name y py)) spos.line env = pure true)
    (hclos : closureFor scope env = pure cl) (hcell : ∀ z ∈ scope.names, z.2 ≠ .cell) (hkind : scope.kind = .function)
    (hnames : ∀ z ∈ scope.names, z.2 = .local → scope.names.lookup z.1 = some .local) (hxa : scope.names.lookup a = some .local) (hxb : scope.names.lookup b = some .local) (hab : ¬ a = b)
    (hy : env.kindOf y = some .local) (hp : (env.scope.kind == .class || (env.scope.kind == .module && env.locals != env.globals)) = false)
    (h : wpAny (model prog w) A (eval iter env) (fun xv s₁ => wpAny (model prog w) A (pyIter xv) (fun it s₂ => McAt prog w A h₀ L m env ct elt a b pa pb tp kk scope cl (MFinA h₀ L m y Q) it s₂) E s₁) E s)
    (hs : ∀ x, foldedSetIterable iter env x = pure x := by intro _; rfl) :
    wpAny (model prog w) A (exec (.Assign [.Name y py] (.ListComp elt [⟨.Tuple [.Name a pa, .Name b pb] kk tp, iter, tl ct, 0⟩] scope pos) spos) env) Q E s := by
  subst hLe
  rw [exec_Assign_Name_used _ _ _ _ hsw]
  refine wpAny_bind (wpAny_standAt (wpAny_bind ?_))
  show wpAny _ A (do let _ ← comprehension (.ListComp elt [⟨.Tuple [.Name a pa, .Name b pb] kk tp, iter, tl ct, 0⟩] scope pos) scope env _ (newList []) false (eval iter env) (some (assign (.Name y py) env))) _ _ s
  refine wpAny_bind (wpAny_mono (wpAny_comprehension_free (use := some (assign (.Name y py) env)) (Q := fun _ s' => Q .next s') rfl hs hclos hkind hnames
    (wpAny_mono h (fun xv s₁ h₁ => wpAny_mono h₁ (fun it s₂ h₂ => ?_) fun _ _ e => e) fun _ _ e => e)) (fun _ s' hq => wpAny_pure (wpAny_pure hq)) fun _ _ e => e)
  refine h₂ _ _ _ _ hcell hkind hxa hxb hab ?_
  intro _ nn D C h' tk m' ys news' hge F' N' o1 o2 hn hC₀ hD₀ hCL hDL hCD offC fin
  show wpAny _ A (assign (.Name y py) env (.ref D)) _ _ _
  refine wpAny_assign_Name (wpAny_storeName_local hy F'.ns (fun h₂ hn₂ hs₂ => ?_) hp)
  have hL₀ : h₀.get? env.locals = none := Heap.get?_none_of_le F'.above
  have F₂ : Fr h₀ env.locals h₂ (fun z => if z = y then some (.ref D) else m z) := ⟨hn₂, fun b o e => hs₂.extBut b o (fun q => by rw [q, hL₀] at e; cases e) (F'.keep b o e), F'.above⟩
  refine ⟨m', hn.sameBut hs₂ hCL, fun h'' hs'' => fin D h'' _ (Nat.le_succ_of_le hge) (F₂.change hs'' hCL hC₀) (fun p hp => ?_) o1 o2⟩
  have z : h₂.get? p.1 = some p.2 := hs₂.extBut _ _ (N' p hp).2.1 (N' p hp).1
  refine ⟨hs''.extBut _ _ ?_ z, (N' p hp).2⟩
  rcases List.mem_cons.mp hp with rfl | hp
  · exact Ne.symm hCD
  · exact offC p hp
end
/-- one side of a zip -/
structure Arm (v : Value) (xs : List VF) (kp : Led) (o : Obj) (c : String) : Prop where
  nf : o.isFreed = false
  pi : ∀ h : Heap, (∀ p ∈ kp, h.get? p.1 = some p.2) → PI v o h
  dr : ∀ (prog : PySem.Program) (w : World) (A : Around) (it : Addr), A.handled = none → it ∉ kp.map (·.1) → ∃ P St, Draws prog w A it (it :: kp.map (·.1)) xs.length P St ∧ (∀ i x, P i x → ∃ f t, xs[i]? = some f ∧ x = f t) ∧
    (∀ h : Heap, h.get? it = some o → (∀ p ∈ kp, h.get? p.1 = some p.2) → St 0 h) ∧ (∀ i h, St i h → ∃ o', h.get? it = some o' ∧ o'.cls = .type c)
noncomputable abbrev fixed (vs : List Value) : List VF := vs.map fun v _ => v
theorem Arm.list {a : Addr} {vs : List Value} {n : Nat} : Arm (.ref a) (fixed vs) [(a, W.listOf vs.toArray n)] (itL a) "list_iterator" where
  nf := rfl
  pi := fun h hk => PI.list (items := vs.toArray) ⟨_, hk _ (.head _), rfl, n, rfl⟩
  dr := fun prog w A it hh hne => by
    refine ⟨fun i v => vs.toArray[i]? = some v, fun i h => h.IsListIter it a i ∧ h.IsList a vs.toArray, ?_, fun i x hx => ⟨fun _ => x, 0, ?_, rfl⟩, fun h ho hk => ⟨⟨_, ho, rfl, rfl⟩, ⟨_, hk _ (.head _), rfl, n, rfl⟩⟩, fun i h st => ?_⟩
    · have D := Draws.list (prog := prog) (w := w) hh it a (fun e => hne (by simp [e])) vs.toArray
      simpa using D
    · simp only [List.getElem?_toArray] at hx
      simp [hx]
    · obtain ⟨⟨o, e, c, _⟩, _⟩ := st
      exact ⟨o, e, c⟩
theorem Arm.tuple {a : Addr} {vs : List Value} {n : Nat} : Arm (.ref a) (fixed vs) [(a, ({ cls := .type "tuple", data := .seq vs.toArray n } : Obj))] (itT a) "tuple_iterator" where
  nf := rfl
  pi := fun h hk => PI.tuple (items := vs.toArray) ⟨_, hk _ (.head _), rfl, n, rfl⟩
  dr := fun prog w A it hh hne => by
    refine ⟨fun i v => vs.toArray[i]? = some v, fun i h => h.IsTupleIter it a i ∧ h.IsTuple a vs.toArray, ?_, fun i x hx => ⟨fun _ => x, 0, ?_, rfl⟩, fun h ho hk => ⟨⟨_, ho, rfl, rfl⟩, ⟨_, hk _ (.head _), rfl, n, rfl⟩⟩, fun i h st => ?_⟩
    · have D := drawsTuple (prog := prog) (w := w) hh it a (fun e => hne (by simp [e])) vs.toArray
      simpa using D
    · simp only [List.getElem?_toArray] at hx
      simp [hx]
    · obtain ⟨⟨o, e, c, _⟩, _⟩ := st
      exact ⟨o, e, c⟩
section
variable {prog : PySem.Program} {w : World} {A : Around} {E : Value → Shared → Prop} {s : Shared} {h₀ : Heap} {L : Addr} {m : PySem.Str → Option Value} {env : Env}
theorem mc_zip {ct : Option PySem.Expr} {elt : PySem.Expr} {a b : PySem.Str} {pa pb tp : Pos} {kk : Nat} {scope : Scope} {cl : List (PySem.Str × Addr)} {Fin : Shared → Led → Nat → List Value → Led → Prop} {news : Led} {v1 v2 : Value} {xs1 xs2 : List VF} {xs : List (VF × VF)} {k1 k2 : Led} {o1 o2 : Obj} {c1 c2 : String}
    (hh : A.handled = none) (F : Fr h₀ L s.heap m) (N : News h₀ L s.heap news) (A1 : Arm v1 xs1 k1 o1 c1) (A2 : Arm v2 xs2 k2 o2 c2) (hk1 : ∀ p ∈ k1, p ∈ news) (hk2 : ∀ p ∈ k2, p ∈ news) (hx : xs1.zip xs2 = xs) (hsz : xs.length ≤ 1000)
    (R : ∀ (g : Heap) (i0 : Led → Prop), MRest prog w A h₀ L m env ct elt a b scope cl { s with heap := g } i0 (k1 ++ k2) (Fin { s with heap := g } news) xs s.toks [] news) :
    wpAny (model prog w) A (call (.type "zip") [v1, v2]) (fun xv s₁ => wpAny (model prog w) A (pyIter xv) (fun it s₂ => McAt prog w A h₀ L m env ct elt a b pa pb tp kk scope cl Fin it s₂) E s₁) E s := by
  subst hx
  have lt1 : ∀ p ∈ k1, @LT.lt Nat _ p.1 s.heap.objs.size := fun p hp => Heap.lt_size (N p (hk1 p hp)).1
  have lt2 : ∀ p ∈ k2, @LT.lt Nat _ p.1 s.heap.objs.size := fun p hp => Heap.lt_size (N p (hk2 p hp)).1
  have ne1 : ∀ j, s.heap.objs.size + j ∉ k1.map (·.1) := fun j hm => by obtain ⟨p, hp, e⟩ := List.mem_map.mp hm; have := lt1 p hp; exact Nat.ne_of_lt (Nat.lt_of_lt_of_le this (Nat.le_add_right _ j)) e
  have ne2 : ∀ j, s.heap.objs.size + j ∉ k2.map (·.1) := fun j hm => by obtain ⟨p, hp, e⟩ := List.mem_map.mp hm; have := lt2 p hp; exact Nat.ne_of_lt (Nat.lt_of_lt_of_le this (Nat.le_add_right _ j)) e
  have hLs : L < s.heap.objs.size := F.ns.lt
  refine call_zipQ (A1.pi _ fun p hp => (N p (hk1 p hp)).1) (A2.pi _ fun p hp => Heap.get?_push_of_some _ (N p (hk2 p hp)).1) A1.nf A2.nf fun h' hz hTI hTO g1 g2 _ hk => ?_
  obtain ⟨P1, S1, D1, q1, st1, ob1⟩ := A1.dr prog w A.in1 s.heap.objs.size hh (ne1 0)
  obtain ⟨P2, S2, D2, q2, st2, ob2⟩ := A2.dr prog w A.in1 (s.heap.objs.size + 1) hh (ne2 1)
  have hne : ∀ (i j : Nat), i ≠ j → (s.heap.objs.size + i : Nat) ≠ s.heap.objs.size + j := fun i j h e => h (Nat.add_left_cancel e)
  have hne0 : ∀ j : Nat, 0 ≠ j → (s.heap.objs.size : Nat) ≠ s.heap.objs.size + j := fun j h e => h (by omega)
  have f1 : ∀ j : Nat, 0 ≠ j → s.heap.objs.size + j ∉ s.heap.objs.size :: k1.map (·.1) := fun j h hm => by
    rcases List.mem_cons.mp hm with e | e
    · exact hne0 j h e.symm
    · exact ne1 j e
  have f2 : ∀ j : Nat, 1 ≠ j → s.heap.objs.size + j ∉ (s.heap.objs.size + 1) :: k2.map (·.1) := fun j h hm => by
    rcases List.mem_cons.mp hm with e | e
    · exact hne 1 j h e.symm
    · exact ne2 j e
  have D : ZA (s.heap.objs.size + 4) (s.heap.objs.size + 2) (s.heap.objs.size + 3) s.heap.objs.size (s.heap.objs.size + 1) (s.heap.objs.size :: k1.map (·.1)) ((s.heap.objs.size + 1) :: k2.map (·.1)) :=
    ⟨hne 2 4 (by decide), hne 3 4 (by decide), hne0 4 (by decide), hne 1 4 (by decide), hne 2 3 (by decide), (hne0 2 (by decide)).symm, hne 2 1 (by decide), (hne0 3 (by decide)).symm, hne 3 1 (by decide), hne0 1 (by decide), f1 4 (by decide), f2 4 (by decide), f1 3 (by decide), f2 3 (by decide), f1 1 (by decide), f2 0 (by decide)⟩
  refine wpAny_pyIter_zip hz (fun iter pos E RR hcell hkind hxa hxb hab hRR => ?_)
  refine mc_block (ws := [(s.heap.objs.size + 4, "zip"), (s.heap.objs.size + 2, "tuple"), (s.heap.objs.size + 3, "tuple"), (s.heap.objs.size, c1), (s.heap.objs.size + 1, c2)]) (keep := k1 ++ k2) (xs := xs1.zip xs2) (news := news) hh
    (KTurns.ofWalksU (zipW D D1 D2 List.mem_cons_self List.mem_cons_self).toU) List.length_zip ?_ ?_ ?_ ?_ ?_ ?_ ?_ ?_ ?_ ?_ ?_ (F.keeps hk) (N.grown hk) ?_ hcell hkind hxa hxb hab (R h' _) (hRR news)
  · rw [List.length_zip] at hsz
    rw [sizeLine_eq]; omega
  · rintro i v h ⟨T, vals, rfl, ⟨x, y, hx, hy, rfl⟩, hT⟩
    obtain ⟨f, t, hf, rfl⟩ := q1 i x hx
    obtain ⟨g, u, hg, rfl⟩ := q2 i y hy
    exact ⟨(f, g), T, t, u, List.getElem?_zip_eq_some.mpr ⟨hf, hg⟩, rfl, hT⟩
  · rintro h s' Q E rfl ⟨hz', _⟩ hQ
    exact wpAny_pyIter_zip hz' hQ
  · rintro i h ⟨hz', hTI', ⟨x, y, hTO'⟩, s1, s2⟩
    obtain ⟨oa, ha, ca⟩ := ob1 i h s1
    obtain ⟨ob, hb, cb⟩ := ob2 i h s2
    have e1 : ∃ o : Obj, h.get? (s.heap.objs.size + 4) = some o ∧ o.cls = .type "zip" := ⟨_, hz', rfl⟩
    have e2 : ∃ o : Obj, h.get? (s.heap.objs.size + 2) = some o ∧ o.cls = .type "tuple" := ⟨_, hTI', rfl⟩
    have e3 : ∃ o : Obj, h.get? (s.heap.objs.size + 3) = some o ∧ o.cls = .type "tuple" := ⟨_, hTO', rfl⟩
    obtain ⟨r1, g1, k1⟩ := e1
    obtain ⟨r2, g2, k2⟩ := e2
    obtain ⟨r3, g3, k3⟩ := e3
    exact ⟨[(s.heap.objs.size + 4, r1), (s.heap.objs.size + 2, r2), (s.heap.objs.size + 3, r3), (s.heap.objs.size, oa), (s.heap.objs.size + 1, ob)], ⟨⟨rfl, k1⟩, ⟨rfl, k2⟩, ⟨rfl, k3⟩, ⟨rfl, ca⟩, ⟨rfl, cb⟩, trivial⟩,
      List.forall_mem_cons.mpr ⟨g1, List.forall_mem_cons.mpr ⟨g2, List.forall_mem_cons.mpr ⟨g3, List.forall_mem_cons.mpr ⟨ha, List.forall_mem_cons.mpr ⟨hb, List.forall_mem_nil _⟩⟩⟩⟩⟩⟩
  · intro c hc
    simp only [List.map_cons, List.map_nil, List.mem_cons, List.mem_nil_iff, or_false] at hc
    rcases hc with rfl | rfl | rfl | rfl | rfl
    · exact ⟨by simp, ktu_new F (Nat.le_add_right _ _)⟩
    · exact ⟨by simp, ktu_new F (Nat.le_add_right _ _)⟩
    · exact ⟨by simp, ktu_new F (Nat.le_add_right _ _)⟩
    · exact ⟨by simp, ktu_new F (Nat.le_refl _)⟩
    · exact ⟨by simp, ktu_new F (Nat.le_add_right _ _)⟩
  · intro c hc
    simp only [List.mem_cons, List.mem_nil_iff, or_false] at hc
    rcases hc with rfl | rfl | rfl | rfl <;> simp
  · intro c hc
    simp only [List.mem_cons, List.mem_append, List.mem_map] at hc
    rcases hc with rfl | rfl | rfl | (rfl | ⟨p, hp, rfl⟩) | (rfl | ⟨p, hp, rfl⟩)
    · exact .inl (by simp)
    · exact .inl (by simp)
    · exact .inl (by simp)
    · exact .inl (by simp)
    · exact .inr ⟨p.2, by simp [hp]⟩
    · exact .inl (by simp)
    · exact .inr ⟨p.2, by simp [hp]⟩
  · intro hc
    simp only [List.mem_cons, List.mem_append, List.mem_map] at hc
    rcases hc with e | e | e | (e | ⟨p, hp, e⟩) | (e | ⟨p, hp, e⟩)
    · exact ktu_ne 4 hLs e
    · exact ktu_ne 2 hLs e
    · exact ktu_ne 3 hLs e
    · exact Nat.ne_of_lt hLs e
    · exact (N p (hk1 p hp)).2.1 e
    · exact ktu_ne 1 hLs e
    · exact (N p (hk2 p hp)).2.1 e
  · intro p hp hc
    have hlp := Heap.lt_size (N p hp).1
    simp only [List.map_cons, List.map_nil, List.mem_cons, List.mem_nil_iff, or_false] at hc
    rcases hc with e | e | e | e | e
    · exact ktu_ne 4 hlp e
    · exact ktu_ne 2 hlp e
    · exact ktu_ne 3 hlp e
    · exact Nat.ne_of_lt hlp e
    · exact ktu_ne 1 hlp e
  · exact ⟨hz, hTI, ⟨_, _, hTO⟩, st1 _ g1 fun p hp => hk _ _ (N p (hk1 p hp)).1, st2 _ g2 fun p hp => hk _ _ (N p (hk2 p hp)).1⟩
  · intro c hc
    have hsz' : @LT.lt Nat _ (s.heap.objs.size + 4) h'.objs.size := Heap.lt_size hz
    simp only [List.mem_cons, List.mem_append, List.mem_map] at hc
    rcases hc with rfl | rfl | rfl | (rfl | ⟨p, hp, rfl⟩) | (rfl | ⟨p, hp, rfl⟩)
    · exact hsz'
    · show @LT.lt Nat _ (s.heap.objs.size + 2) h'.objs.size; omega
    · show @LT.lt Nat _ (s.heap.objs.size + 3) h'.objs.size; omega
    · show @LT.lt Nat _ s.heap.objs.size h'.objs.size; omega
    · have := lt1 p hp; show @LT.lt Nat _ p.1 h'.objs.size; omega
    · show @LT.lt Nat _ (s.heap.objs.size + 1) h'.objs.size; omega
    · have := lt2 p hp; show @LT.lt Nat _ p.1 h'.objs.size; omega
  · intro p hp
    rcases List.mem_append.mp hp with hp | hp
    · exact hk1 p hp
    · exact hk2 p hp
theorem MRest.gen {ct : Option PySem.Expr} {elt : PySem.Expr} {a b : PySem.Str} {scope : Scope} {cl : List (PySem.Str × Addr)} {i0 : Led → Prop} {keep : Led} {Fin : Nat → List Value → Led → Prop} {xs : List (VF × VF)} {ys : List Value} {news : Led} {n : Nat} (W : (Nat → List Value → Prop) → Prop)
    (k : ∀ Fin' : Nat → List Value → Led → Prop, (W fun n vs => Fin' n vs news) → MRest prog w A h₀ L m env ct elt a b scope cl s i0 keep Fin' xs n ys news) (h : W fun n vs => Fin n vs news) : MRest prog w A h₀ L m env ct elt a b scope cl s i0 keep Fin xs n ys news := k Fin h
theorem MRest.nil {ct : Option PySem.Expr} {elt : PySem.Expr} {a b : PySem.Str} {scope : Scope} {cl : List (PySem.Str × Addr)} {i0 : Led → Prop} {keep : Led} {Fin : Nat → List Value → Led → Prop} {ys : List Value} {news : Led} {n : Nat} (h : Fin n ys news) : MRest prog w A h₀ L m env ct elt a b scope cl s i0 keep Fin [] n ys news := h
theorem MRest.cons {elt : PySem.Expr} {a b : PySem.Str} {scope : Scope} {cl : List (PySem.Str × Addr)} {i0 : Led → Prop} {keep : Led} {Fin : Nat → List Value → Led → Prop} {p : VF × VF} {r : List (VF × VF)} {ys : List Value} {news : Led} {n : Nat}
    (h : ∀ (t u : Tok) its C oC D m₂ h tk (E' : Value → Shared → Prop), n ≤ tk → i0 its → NsObj oC m₂ → m₂ a = some (p.1 t) → m₂ b = some (p.2 u) → Fr h₀ L h m → News h₀ L h ((C, oC) :: (D, lst ys) :: (news ++ its)) →
      (∀ q ∈ news, q.1 ≠ C ∧ q.1 ≠ D) → (∀ q ∈ news, ∀ z ∈ its, q.1 ≠ z.1) → (∀ q ∈ its, q.1 ≠ C ∧ q.1 ≠ D) → (@Ne Nat C D) →
      wpAny (model prog w) A (eval elt (compEnvC scope cl C env)) (MEnd h₀ L m { s with heap := h, toks := tk } C oC D (lst ys) its keep (fun k y news' => MRest prog w A h₀ L m env none elt a b scope cl s i0 keep Fin r k (ys ++ [y]) news')) E' { s with heap := h, toks := tk }) :
    MRest prog w A h₀ L m env none elt a b scope cl s i0 keep Fin (p :: r) n ys news := h
end
end Mine
end
section
open PySem PySem.W PyProof.Rows PySem.Calls PySem.Spec PyProof.Rows.LCg
open PyProof.V
set_option maxRecDepth 100000
namespace Mine
section
variable {prog : PySem.Program} {w : World} {A : Around} {E : Value → Shared → Prop} {s : Shared} {h₀ : Heap} {L : Addr} {m : PySem.Str → Option Value} {env : Env}
end
noncomputable def MWEnd (h₀ : Heap) (L : Addr) (s : Shared) (rest : (PySem.Str → Option Value) → Led → Prop) (s₂ : Shared) : Prop := ∃ h' tk m' nw', s₂ = { s with heap := h', toks := tk } ∧ Fr h₀ L h' m' ∧ News h₀ L h' nw' ∧ rest m' nw'
noncomputable def MWPost (h₀ : Heap) (L : Addr) (s : Shared) (rest : (PySem.Str → Option Value) → Led → Prop) (Q : Flow → Shared → Prop) (f : Flow) (s₂ : Shared) : Prop :=
  match f with
  | .ret v => Q (.ret v) s₂
  | .brk => Q .next s₂
  | _ => MWEnd h₀ L s rest s₂
theorem MWEnd.intro {h₀ h' : Heap} {L : Addr} {s : Shared} {tk : Nat} {rest : (PySem.Str → Option Value) → Led → Prop} {m' : PySem.Str → Option Value} {all : Led} (F : Fr h₀ L h' m') (N : News h₀ L h' all) (nw' : Led) (sub : ∀ p ∈ nw', p ∈ all) (r : rest m' nw') : MWEnd h₀ L s rest { s with heap := h', toks := tk } :=
  ⟨h', tk, m', nw', rfl, F, newsSub N sub, r⟩
section
variable {prog : PySem.Program} {w : World} {A : Around} {E : Value → Shared → Prop} {s : Shared} {env : Env} {test : PySem.Expr} {body : List Stmt} {Q : Flow → Shared → Prop} {h₀ : Heap}
theorem WhileInd (P : Nat → (PySem.Str → Option Value) → Led → Prop) (hE : PassesOwn (model prog w) A env E)
    (turn : ∀ n m nw, P n m nw → ∀ h tk, Fr h₀ env.locals h m → News h₀ env.locals h nw →
      wpAny (model prog w) A (isTrue test env (eval test env)) (fun b s₂ => WhlIf b (wpAny (model prog w) A (execs body env) (MWPost h₀ env.locals s (fun m' nw' => ∃ n', n' < n ∧ P n' m' nw') Q) E s₂) (wpAny (model prog w) A (execs [] env) Q E s₂)) E { s with heap := h, toks := tk }) :
    ∀ n m nw, P n m nw → ∀ h tk, Fr h₀ env.locals h m → News h₀ env.locals h nw → WhlRest prog w A E env test body [] Q 0 { s with heap := h, toks := tk } := by
  intro n
  induction n using Nat.strongRecOn with
  | ind n ih =>
    intro m nw hP h tk F N
    refine whl_turn (k := 0) hE (wpAny_mono (turn n m nw hP h tk F N) (fun b s₂ hb => ?_) fun _ _ e => e)
    cases b with
    | false => exact hb
    | true =>
      have hb' : wpAny (model prog w) A (execs body env) (MWPost h₀ env.locals s (fun m' nw' => ∃ n', n' < n ∧ P n' m' nw') Q) E s₂ := by
        unfold WhlIf at hb; rw [if_pos rfl] at hb; exact hb
      refine WhlIf.yes rfl (wpAny_mono hb' (fun f s₃ hf => ?_) fun _ _ e => e)
      have go : MWEnd h₀ env.locals s (fun m' nw' => ∃ n', n' < n ∧ P n' m' nw') s₃ → WhlRest prog w A E env test body [] Q 0 s₃ := by
        rintro ⟨h', tk', m', nw', rfl, F', N', n', hn, hP'⟩
        exact ih n' hn m' nw' hP' h' tk' F' N'
      cases f with
      | next => exact go hf
      | cont => exact go hf
      | brk => exact hf
      | ret v => exact hf
theorem WhileStart {pos : Pos} {n : Nat} {m : PySem.Str → Option Value} {nw : Led} (P : Nat → (PySem.Str → Option Value) → Led → Prop) (hE : PassesOwn (model prog w) A env E) (F : Fr h₀ env.locals s.heap m) (N : News h₀ env.locals s.heap nw) (h : P n m nw)
    (turn : ∀ n m nw, P n m nw → ∀ h tk, Fr h₀ env.locals h m → News h₀ env.locals h nw →
      wpAny (model prog w) A (isTrue test env (eval test env)) (fun b s₂ => WhlIf b (wpAny (model prog w) A (execs body env) (MWPost h₀ env.locals s (fun m' nw' => ∃ n', n' < n ∧ P n' m' nw') Q) E s₂) (wpAny (model prog w) A (execs [] env) Q E s₂)) E { s with heap := h, toks := tk }) :
    wpAny (model prog w) A (exec (.While test body [] pos) env) Q E s :=
  whl_start 0 (WhileInd (s := s) P hE turn n m nw h s.heap s.toks F N)
theorem WhileStartQ {pos : Pos} {n : Nat} {m : PySem.Str → Option Value} {nw : Led} (P : Nat → (PySem.Str → Option Value) → Led → Prop) (X : (PySem.Str → Option Value) → Led → Prop) (hE : PassesOwn (model prog w) A env E) (F : Fr h₀ env.locals s.heap m) (N : News h₀ env.locals s.heap nw) (h : P n m nw)
    (turn : ∀ n m nw, P n m nw → ∀ h tk (Qb Qn : Flow → Shared → Prop) (E' : Value → Shared → Prop),
      (∀ {h' tk' m' all}, Fr h₀ env.locals h' m' → News h₀ env.locals h' all → ∀ nw', (∀ p ∈ nw', p ∈ all) → (∃ n', n' < n ∧ P n' m' nw') → Qb .next { s with heap := h', toks := tk' }) →
      (∀ {h' tk' m' all}, Fr h₀ env.locals h' m' → News h₀ env.locals h' all → ∀ nw', (∀ p ∈ nw', p ∈ all) → X m' nw' → Qn .next { s with heap := h', toks := tk' }) → Fr h₀ env.locals h m → News h₀ env.locals h nw →
      wpAny (model prog w) A (isTrue test env (eval test env)) (fun b s₂ => WhlIf b (wpAny (model prog w) A (execs body env) Qb E' s₂) (wpAny (model prog w) A (execs [] env) Qn E' s₂)) E' { s with heap := h, toks := tk })
    (done : ∀ m nw, X m nw → ∀ h tk, Fr h₀ env.locals h m → News h₀ env.locals h nw → Q .next { s with heap := h, toks := tk }) :
    wpAny (model prog w) A (exec (.While test body [] pos) env) Q E s :=
  WhileStart P hE F N h fun n m nw hP h tk F N => turn n m nw hP h tk (MWPost h₀ env.locals s (fun m' nw' => ∃ n', n' < n ∧ P n' m' nw') Q) Q E (fun F N nw' sub r => MWEnd.intro F N nw' sub r) (fun F N nw' sub x => done _ nw' x _ _ F (newsSub N sub)) F N
end
/-- split roads meet again; what comes is told to whoever goes on -/
theorem step_frameW {M : Model} {A : Around} {t : Sem Value} {Q E : Value → Shared → Prop} {s : Shared} {h₀ : Heap} {L : Addr} {m : PySem.Str → Option Value} {nw : Led} (_ : Fr h₀ L s.heap m) (_ : News h₀ L s.heap nw) (W : (Value → Prop) → Prop)
    (k : ∀ Q' : Value → Shared → Prop, (W fun v => ∀ h' tk', Fr h₀ L h' m → News h₀ L h' nw → Q' v { s with heap := h', toks := tk' }) → wpAny M A t Q' E s)
    (h : W fun v => ∀ h' tk', Fr h₀ L h' m → News h₀ L h' nw → Q v { s with heap := h', toks := tk' }) : wpAny M A t Q E s := k Q h
end Mine
end
section
open PySem PySem.W PyProof.Rows PySem.Calls PySem.Spec PyProof.Rows.LCg
namespace Mine
section
variable {prog : PySem.Program} {w : World} {A : Around} {E : Value → Shared → Prop} {s : Shared} {Q : Value → Shared → Prop} {t u : Tok}
theorem my_div6 {X : Int} {k : Nat} (hX : X = (k : Int)) (hk : k < 6) (h : Q (.float (hue k) s.toks) { s with toks := s.toks + 1 }) : wpAny (model prog w) A (binaryOp .Div (.int X t) (.int 6 u)) Q E s := by
  subst hX
  have e : Float64.isInf (Float64.ofFrac (decide ((k : Int) < 0) != decide ((6 : Int) < 0)) (k : Int).natAbs (6 : Int).natAbs) = false ∧ Float64.ofFrac (decide ((k : Int) < 0) != decide ((6 : Int) < 0)) (k : Int).natAbs (6 : Int).natAbs = hue k := by
    have hk6 : k = 0 ∨ k = 1 ∨ k = 2 ∨ k = 3 ∨ k = 4 ∨ k = 5 := by omega
    rcases hk6 with rfl | rfl | rfl | rfl | rfl | rfl <;> exact ⟨by decide +kernel, by decide +kernel⟩
  refine AutoIntOps.truediv_2 (by decide) (by rw [e.1]; decide) ?_
  rw [e.2]
  exact h
end
section
variable {prog : PySem.Program} {w : World} {A : Around} {E : Value → Shared → Prop} {s : Shared} {Q : Value → Shared → Prop} {t u : Tok}
theorem my_int_hue {k : Nat} (hk : k < 6) (h : Q (.int (k : Int) s.toks) { s with toks := s.toks + 1 }) : wpAny (model prog w) A (call (.type "int") [.float (Float64.mul (hue k) 4618441417868443648) t]) Q E s := by
  have hk6 : k = 0 ∨ k = 1 ∨ k = 2 ∨ k = 3 ∨ k = 4 ∨ k = 5 := by omega
  rcases hk6 with rfl | rfl | rfl | rfl | rfl | rfl
  · have e : Float64.truncOf false 0 (-1074) = ((0 : Nat) : Int) := by decide +kernel
    exact call_int_float (sg := false) (m := 0) (e := -1074) (by kernel_rfl) (by rw [e]; exact h)
  · have e : Float64.truncOf false 4503599627370496 (-52) = ((1 : Nat) : Int) := by decide +kernel
    exact call_int_float (sg := false) (m := 4503599627370496) (e := -52) (by kernel_rfl) (by rw [e]; exact h)
  · have e : Float64.truncOf false 4503599627370496 (-51) = ((2 : Nat) : Int) := by decide +kernel
    exact call_int_float (sg := false) (m := 4503599627370496) (e := -51) (by kernel_rfl) (by rw [e]; exact h)
  · have e : Float64.truncOf false 6755399441055744 (-51) = ((3 : Nat) : Int) := by decide +kernel
    exact call_int_float (sg := false) (m := 6755399441055744) (e := -51) (by kernel_rfl) (by rw [e]; exact h)
  · have e : Float64.truncOf false 4503599627370496 (-50) = ((4 : Nat) : Int) := by decide +kernel
    exact call_int_float (sg := false) (m := 4503599627370496) (e := -50) (by kernel_rfl) (by rw [e]; exact h)
  · have e : Float64.truncOf false 5629499534213120 (-50) = ((5 : Nat) : Int) := by decide +kernel
    exact call_int_float (sg := false) (m := 5629499534213120) (e := -50) (by kernel_rfl) (by rw [e]; exact h)
end
section
variable {prog : PySem.Program} {w : World} {A : Around} {E : Value → Shared → Prop} {s : Shared} {Q : Value → Shared → Prop} {t u : Tok} {a b : UInt64} {m n : Int}
theorem cl_divff (h1 : ¬Float64.isZero b = true) (h : Q (.float (Float64.div a b) s.toks) { s with toks := s.toks + 1 }) : wpAny (model prog w) A (binaryOp .Div (.float a t) (.float b u)) Q E s := AutoFloatOps.truediv_1 h1 h
theorem cl_modff (h1 : ¬Float64.isZero b = true) (h : Q (.float (Float64.divmod a b).snd s.toks) { s with toks := s.toks + 1 }) : wpAny (model prog w) A (binaryOp .Mod (.float a t) (.float b u)) Q E s := AutoFloatOps.mod_1 h1 h
theorem cl_subfi (h1 : ¬Float64.isInf (Float64.ofInt n) = true) (h : Q (.float (Float64.sub a (Float64.ofInt n)) s.toks) { s with toks := s.toks + 1 }) : wpAny (model prog w) A (binaryOp .Sub (.float a t) (.int n u)) Q E s := AutoFloatOps.sub_fi_1 h1 h
theorem cl_divfi (h1 : ¬Float64.isInf (Float64.ofInt n) = true) (h2 : ¬Float64.isZero (Float64.ofInt n) = true) (h : Q (.float (Float64.div a (Float64.ofInt n)) s.toks) { s with toks := s.toks + 1 }) : wpAny (model prog w) A (binaryOp .Div (.float a t) (.int n u)) Q E s := AutoFloatOps.truediv_fi_2 h1 h2 h
end
theorem off1_mem {D : Addr} : ∀ {l : Led}, Off1 D l → ∀ z ∈ l, z.1 ≠ D
  | [], _, _, h => nomatch h
  | _ :: _, x, z, h => by
    rcases List.mem_cons.mp h with rfl | h
    · exact x.1
    · exact off1_mem x.2 z h
section
variable {I Lc : Addr} {tn : Nat} {tt : Tok} {news : Led} {R : Int × Int × Int} {m : PySem.Str → Option Value} {nw : Led}
end
section
variable {fx : Led} {tn : Nat} {tt : Tok} {dr : Value} {R : Int × Int} {m : PySem.Str → Option Value} {nw : Led}
end
theorem inf_k {k : Nat} (hk : k < 6) : ¬ Float64.isInf (Float64.ofInt (k : Int)) = true := by
  have hk6 : k = 0 ∨ k = 1 ∨ k = 2 ∨ k = 3 ∨ k = 4 ∨ k = 5 := by omega
  rcases hk6 with rfl | rfl | rfl | rfl | rfl | rfl <;> decide +kernel
section
variable {prog : PySem.Program} {w : World} {A : Around} {E : Value → Shared → Prop} {s : Shared} {h₀ : Heap} {L : Addr} {m : PySem.Str → Option Value} {news : Led} {Q : Value → Shared → Prop} {x y z : Int} {t u v : Tok}
end
section
variable {prog : PySem.Program} {w : World} {A : Around} {E : Value → Shared → Prop} {s : Shared} {Q : Value → Shared → Prop} {t u : Tok} {c : Nat}
end
section
variable {I Lc : Addr} {tn : Nat} {tt : Tok} {news : Led} {R : Int × Int × Int} {m : PySem.Str → Option Value} {wv : Int} {p : Int × Int × Int} {D : Addr} {cD : Nat} {u0 u1 u2 tw : Tok} {o : Obj} {j : Nat}
end
end Mine
end
section
open PySem PySem.W PyProof.Rows PySem.Calls PySem.Spec PyProof.Rows.LCg
namespace Mine
end Mine
end
section
open PySem PySem.W PyProof.Rows PySem.Calls PySem.Spec PyProof.Rows.LCg
namespace Mine
section
variable {prog : PySem.Program} {w : World} {A : Around} {h₀ : Heap} {L : Addr} {m : PySem.Str → Option Value} {env : Env} {elt : PySem.Expr} {nm : PySem.Str} {scope : Scope} {cl : List (PySem.Str × Addr)} {s : Shared} {Fin : List Value → Led → Prop} {news : Led}
end
theorem tab_grown {a b : Int} {c : PySem.Str} {o : Obj} {T news : Led} {h₀ h : Heap} {L P : Addr} (hT : TabIs a b c o T) (N : News h₀ L h news) (hm : (P, o) ∈ news) : GrownAt P h := by
  rcases hT with rfl | ⟨_, _, _, _, rfl, _⟩ <;> exact GrownAt.of N hm
end Mine
end
section
open PySem PySem.W PyProof.Rows PySem.Calls PySem.Spec PyProof.Rows.LCg
namespace Mine
section
variable {prog : PySem.Program} {w : World} {A : Around} {E : Value → Shared → Prop} {s : Shared} {h₀ : Heap} {L a c P : Addr} {m mg mb : PySem.Str → Option Value} {cn : PySem.Str} {cs : Scope} {ccd : Value} {cl : List (PySem.Str × Addr)} {rest T0 : Led} {name qual : PySem.Str} {params : Arguments} {body : List Stmt} {scope : Scope} {pos : Pos} {firstLine : Nat} {clos : List (PySem.Str × Addr)} {p : PySem.Program} {loose : List PySem.Str} {mean : ExcName → Option Value} {o : Obj} {nm : PySem.Str} {Q : Value → Shared → Prop}
/-- a def within a def, its code made now or found in the table -/
theorem nestW (F : Fr h₀ L s.heap m) (N : News h₀ L s.heap ((P, o) :: rest)) (T : Top p loose mean mg mb h₀) (C : CodeHd h₀ c P) (hcd : ccd = .ref c) (hT : TabIs pos.line pos.col nm o T0) (hs0 : ∀ q ∈ T0, q ∈ rest) (hP : ∀ q ∈ rest, q.1 ≠ P) (hq : qual = nm)
    (hcl : closureFor scope (envX cn cs L a ccd cl) = pure clos)
    (h : ∀ f c' oc vs t ctv doc o9 ext h' tk, TabIs pos.line pos.col nm o9 (ext ++ T0) → (c', oc) ∈ ext ++ T0 → oc.data = .fields vs → vs[1]? = some (.str qual t) → (∀ q ∈ (P, o9) :: (ext ++ rest), q.1 < f) → (∀ q ∈ ext, ∀ z ∈ (P, o9) :: rest, z.1 < q.1) → Fr h₀ L h' m →
      News h₀ L h' ((f, fnMade name qual params body scope clos doc ((mg (PySem.Str.ofString "__name__")).getD .none) c' ctv) :: (P, o9) :: (ext ++ rest)) → Q (.ref f) { s with heap := h', toks := tk }) :
    wpAny (model prog w) A (makeFunction name qual params (.stmts body) scope (envX cn cs L a ccd cl) [] [] [] pos firstLine) Q E s := by
  subst hq
  rcases hT with rfl | ⟨c0, oc0, vs0, t0, rfl, hm, hd, hv⟩
  · refine nest_K F N T C hcd (.head hP) (by constructor) rfl hcl fun f c' oc vs t ctv doc h' tk F' N' hd hv hc hf => ?_
    refine h f c' oc vs t ctv doc _ [(c', oc)] h' tk (.inr ⟨c', oc, vs, t, rfl, .head _, hd, hv⟩) (.head _) hd hv ?_ ?_ F' (newsSub N' ?_)
    · intro q hq
      rcases List.mem_cons.mp hq with rfl | hq
      · exact Nat.lt_trans (hc (P, tabObj #[]) (.head _)) hf
      · rcases List.mem_cons.mp hq with rfl | hq
        · exact hf
        · exact Nat.lt_trans (hc _ (.tail _ hq)) hf
    · intro q hq z hz
      rcases List.mem_cons.mp hq with rfl | hq
      · rcases List.mem_cons.mp hz with rfl | hz
        · exact hc (P, tabObj #[]) (.head _)
        · exact hc _ (.tail _ hz)
      · cases hq
    · intro q hq
      simp only [List.mem_cons, List.mem_append, List.not_mem_nil, or_false] at hq ⊢
      grind
  · refine nestHit_K (c' := c0) F N T C hcd (.head _) (by constructor) ?_ hcl fun f ctv doc h' tk F' N' hf => ?_
    · simp [codeAmong, rawInt]
    · exact h f c0 oc0 vs0 t0 ctv doc _ [] h' tk (.inr ⟨c0, oc0, vs0, t0, rfl, hm, hd, hv⟩) hm hd hv hf (List.forall_mem_nil _) F' N'
end
theorem pull5 {h₀ h : Heap} {L : Addr} {x1 x2 x3 x4 x5 y : Addr × Obj} {l : Led} (N : News h₀ L h (x1 :: x2 :: x3 :: x4 :: x5 :: y :: l)) : News h₀ L h (y :: x1 :: x2 :: x3 :: x4 :: x5 :: l) := newsSub N (FMC.all ⟨.tail _ (.tail _ (.tail _ (.tail _ (.tail _ (.head _))))), FMC.all ⟨.head _, FMC.all ⟨.tail _ (.head _), FMC.all ⟨.tail _ (.tail _ (.head _)), FMC.all ⟨.tail _ (.tail _ (.tail _ (.head _))), FMC.all ⟨.tail _ (.tail _ (.tail _ (.tail _ (.head _)))), fun _ h => .tail _ (.tail _ (.tail _ (.tail _ (.tail _ (.tail _ h)))))⟩⟩⟩⟩⟩⟩)
theorem push5 {h₀ h : Heap} {L : Addr} {f x1 x2 x3 x4 x5 y : Addr × Obj} {e l : Led} (N : News h₀ L h (f :: y :: (e ++ x1 :: x2 :: x3 :: x4 :: x5 :: l))) : News h₀ L h (f :: x1 :: x2 :: x3 :: x4 :: x5 :: y :: (e ++ l)) :=
  have a {p : Addr × Obj} (h : p ∈ x1 :: x2 :: x3 :: x4 :: x5 :: l) : p ∈ f :: y :: (e ++ x1 :: x2 :: x3 :: x4 :: x5 :: l) := .tail _ (.tail _ (List.mem_append_right _ h))
  newsSub N (FMC.all ⟨.head _, FMC.all ⟨a (.head _), FMC.all ⟨a (.tail _ (.head _)), FMC.all ⟨a (.tail _ (.tail _ (.head _))), FMC.all ⟨a (.tail _ (.tail _ (.tail _ (.head _)))), FMC.all ⟨a (.tail _ (.tail _ (.tail _ (.tail _ (.head _))))), FMC.all ⟨.tail _ (.head _), fun _ h => (List.mem_append.mp h).elim (fun h => .tail _ (.tail _ (List.mem_append_left _ h))) (fun h => a (.tail _ (.tail _ (.tail _ (.tail _ (.tail _ h))))))⟩⟩⟩⟩⟩⟩⟩)
theorem pull3 {h₀ h : Heap} {L : Addr} {x1 x2 x3 y : Addr × Obj} {l : Led} (N : News h₀ L h (x1 :: x2 :: x3 :: y :: l)) : News h₀ L h (y :: x1 :: x2 :: x3 :: l) := newsSub N (FMC.all ⟨.tail _ (.tail _ (.tail _ (.head _))), FMC.all ⟨.head _, FMC.all ⟨.tail _ (.head _), FMC.all ⟨.tail _ (.tail _ (.head _)), fun _ h => .tail _ (.tail _ (.tail _ (.tail _ h)))⟩⟩⟩⟩)
theorem push3 {h₀ h : Heap} {L : Addr} {f x1 x2 x3 y : Addr × Obj} {e l : Led} (N : News h₀ L h (f :: y :: (e ++ x1 :: x2 :: x3 :: l))) : News h₀ L h (f :: x1 :: x2 :: x3 :: y :: (e ++ l)) :=
  have a {p : Addr × Obj} (h : p ∈ x1 :: x2 :: x3 :: l) : p ∈ f :: y :: (e ++ x1 :: x2 :: x3 :: l) := .tail _ (.tail _ (List.mem_append_right _ h))
  newsSub N (FMC.all ⟨.head _, FMC.all ⟨a (.head _), FMC.all ⟨a (.tail _ (.head _)), FMC.all ⟨a (.tail _ (.tail _ (.head _))), FMC.all ⟨.tail _ (.head _), fun _ h => (List.mem_append.mp h).elim (fun h => .tail _ (.tail _ (List.mem_append_left _ h))) (fun h => a (.tail _ (.tail _ (.tail _ h))))⟩⟩⟩⟩⟩)
end Mine
end
section
open PySem PySem.W PyProof.Rows PySem.Calls PySem.Spec PyProof.Rows.LCg
namespace Mine
/-- a pair of texts, each with its token -/
noncomputable abbrev RPr := (PySem.Str × Tok) × (PySem.Str × Tok)
noncomputable def flatP : List RPr → List Value
  | [] => []
  | p :: r => .str p.1.1 p.1.2 :: .str p.2.1 p.2.2 :: flatP r
noncomputable def repF : List RPr → List Nat → List Nat
  | [], l => l
  | p :: r, l => repF r (replL p.1.1.cps.toList p.2.1.cps.toList l 0)
noncomputable def RepOk : List RPr → PySem.Str → Prop
  | [], _ => True
  | p :: r, x => x.length ≤ 1000 ∧ 1 ≤ p.1.1.length ∧ PySem.Builtin.Str.strKind p.1.1 = 1 ∧ p.2.1.length ≤ 64 ∧ ∀ x' : PySem.Str, x'.cps.toList = replL p.1.1.cps.toList p.2.1.cps.toList x.cps.toList 0 → RepOk r x'
noncomputable def RepP (news : Led) (R : List Nat) (n : Nat) (m : PySem.Str → Option Value) (nw : Led) : Prop :=
  ∀ C : Led → Prop, (∀ (ps : List RPr) (x : PySem.Str) (tx : Tok) (T : Addr), ps.length = n → ps.length ≤ 40 → m (PySem.Str.ofString "text") = some (.str x tx) → m (PySem.Str.ofString "pairs") = some (.ref T) → RepOk ps x → repF ps x.cps.toList = R → (∀ p ∈ news, p.1 ≠ T) →
    C ((T, ({ cls := .type "tuple", data := .seq (flatP ps).toArray } : Obj)) :: news)) → C nw
noncomputable def RepX (news : Led) (R : List Nat) (m : PySem.Str → Option Value) (nw : Led) : Prop :=
  ∀ C : Led → Prop, (∀ (x : PySem.Str) (tx : Tok), m (PySem.Str.ofString "text") = some (.str x tx) → x.cps.toList = R → C news) → C nw
theorem flatP_length : ∀ ps, (flatP ps).length = 2 * ps.length
  | [] => rfl
  | _ :: r => by simp [flatP, flatP_length r]; omega
theorem bind_rest {K : Frag} {S : Setting} {name qual : PySem.Str} {body : List Stmt} {scope : Scope} {doc pm cdv ct : Value} {an : Option Addr} {p1 p2 : Pos} {x y : Value} {vs : List Value} (hl : vs.length ≤ 1000) :
    peek1 K S (bindArgs (fnOf name qual { posonlyargs := [], args := [⟨PySem.Str.ofString "text", none, p1⟩], vararg := some ⟨PySem.Str.ofString "pairs", none, p2⟩, kwonlyargs := [], kw_defaults := [], kwarg := none, defaults := [] } body scope .none .none doc pm an cdv ct) ⟨x :: y :: vs, []⟩) = some (({ cls := .type "tuple", data := .seq (y :: vs).toArray } : Obj), fun D => some [(PySem.Str.ofString "text", x), (PySem.Str.ofString "pairs", .ref D)]) := by
  unfold bindArgs
  dsimp only [fnOf]
  simp only [List.map_nil, List.map_cons, List.nil_append, List.length_cons, List.length_nil]
  have e : (decide (vs.length + 1 + 1 > 0 + 1) && (some (⟨PySem.Str.ofString "pairs", none, p2⟩ : PySem.Arg)).isNone) = false := Bool.and_false _
  rw [e]
  show peek1 K S (newTuple (y :: vs) >>= fun v => pure [(PySem.Str.ofString "text", x), (PySem.Str.ofString "pairs", v)]) = _
  have e2 : ¬ ((y :: vs).toArray.size > sizeLine) := by rw [sizeLine_eq, List.size_toArray, List.length_cons]; omega
  unfold newTuple newObj
  dsimp only
  rw [if_neg e2]
  rfl
theorem seqIx0 (n : Nat) : seqIndex? 0 (n + 1) = some 0 := by
  unfold seqIndex?; simp
theorem seqIx1 (n : Nat) : seqIndex? 1 (n + 1 + 1) = some 1 := by
  unfold seqIndex?; simp; omega
theorem len_ne0 {y : PySem.Str} (h : 1 ≤ y.length) : (y.length == 0) = false := by
  rw [beq_eq_false_iff_ne]; omega
end Mine
end
section
open PySem PySem.W PyProof.Rows PySem.Calls PySem.Spec PyProof.Rows.LCg
open PyProof.V PySem.SeqAt PySem.Flt
namespace Mine
noncomputable abbrev f2 : UInt64 := 0x4000000000000000
/-- the sums of two of the corners red, green, blue: like ones even, unlike ones odd -/
noncomputable def mixV : Nat → UInt64 × UInt64 × UInt64
  | 0 => (f2, f0, f0) | 1 => (f1, f1, f0) | 2 => (f0, f2, f0) | 3 => (f0, f1, f1) | 4 => (f0, f0, f2) | _ => (f1, f0, f1)
noncomputable def mixM : Nat → UInt64
  | 0 => f2 | 1 => f1 | 2 => f2 | 3 => f1 | 4 => f2 | _ => f1
noncomputable def mixH : Nat → UInt64
  | 5 => 0x3FEAAAAAAAAAAAAB | k => hue k
section
variable {prog : PySem.Program} {w : World} {A : Around} {E : Value → Shared → Prop} {s : Shared} {h₀ : Heap} {L : Addr} {m : PySem.Str → Option Value} {news : Led} {Q : Value → Shared → Prop} {a b c v : Value}
theorem max3v (i : Nat) (hh : A.handled = none) (F : Fr h₀ L s.heap m) (N : News h₀ L s.heap news) (ha : NumV a) (hb : NumV b) (hc : NumV c)
    (hi : argBest (fun i j => ltV (#[a, b, c].getD j .none) (#[a, b, c].getD i .none)) 2 = i) (hv : #[a, b, c][i]? = some v)
    (h : ∀ h' tk, Fr h₀ L h' m → News h₀ L h' news → Q v { s with heap := h', toks := tk }) : wpAny (model prog w) A (call (.builtin "max") [a, b, c]) Q E s := by
  have hT : (s.heap.push { cls := .type "tuple", data := .seq #[a, b, c] }).IsTuple s.heap.objs.size #[a, b, c] := ⟨_, Heap.get?_push_size _ rfl, rfl, 0, rfl⟩
  refine call_max_three (wpAny_pyIter_tuple hT ?_)
  have hsz : (s.heap.push { cls := .type "tuple", data := .seq #[a, b, c] }).objs.size = s.heap.objs.size + 1 := Heap.size_push ..
  refine ⟨_, [_, s.heap.objs.size], [_], _, _, _, _, rfl, Walks.tuple (A := A.in1) hh _ s.heap.objs.size (by rw [hsz]; exact Nat.ne_of_lt (Nat.lt_succ_self _)) #[a, b, c],
    ⟨⟨_, Heap.get?_push_size _ rfl, rfl, rfl⟩, hT.push _⟩, fun d hd => ?_, by simp, cmpOf_gt #[a, b, c] (by simp [ha, hb, hc]), fun v' h' tk hP hk => ?_⟩
  · show d < ((s.heap.push _).push _).objs.size
    rw [Heap.size_push, hsz]
    simp only [List.mem_cons, List.not_mem_nil, or_false] at hd
    rcases hd with rfl | rfl
    · rw [hsz]; exact Nat.lt_succ_self _
    · exact Nat.lt_succ_of_lt (Nat.lt_succ_self _)
  · have hold : ∀ d o, s.heap.get? d = some o → h'.get? d = some o := fun d o e => by
      refine hk d o (fun hm => ?_) (Heap.get?_push_of_some _ (Heap.get?_push_of_some _ e))
      have := Heap.lt_size e
      simp only [List.mem_cons, List.not_mem_nil, or_false] at hm
      rw [hm, hsz] at this
      exact Nat.lt_irrefl _ (Nat.lt_of_succ_lt this)
    have e : #[a, b, c][argBest (fun i j => ltV (#[a, b, c].getD j .none) (#[a, b, c].getD i .none)) 2]? = some v' := hP
    rw [hi, hv] at e
    cases e
    exact h h' tk (F.grownK hold) (N.grown hold)
theorem min3v (i : Nat) (hh : A.handled = none) (F : Fr h₀ L s.heap m) (N : News h₀ L s.heap news) (ha : NumV a) (hb : NumV b) (hc : NumV c)
    (hi : argBest (fun i j => ltV (#[a, b, c].getD i .none) (#[a, b, c].getD j .none)) 2 = i) (hv : #[a, b, c][i]? = some v)
    (h : ∀ h' tk, Fr h₀ L h' m → News h₀ L h' news → Q v { s with heap := h', toks := tk }) : wpAny (model prog w) A (call (.builtin "min") [a, b, c]) Q E s := by
  have hT : (s.heap.push { cls := .type "tuple", data := .seq #[a, b, c] }).IsTuple s.heap.objs.size #[a, b, c] := ⟨_, Heap.get?_push_size _ rfl, rfl, 0, rfl⟩
  refine call_min_three (wpAny_pyIter_tuple hT ?_)
  have hsz : (s.heap.push { cls := .type "tuple", data := .seq #[a, b, c] }).objs.size = s.heap.objs.size + 1 := Heap.size_push ..
  refine ⟨_, [_, s.heap.objs.size], [_], _, _, _, _, rfl, Walks.tuple (A := A.in1) hh _ s.heap.objs.size (by rw [hsz]; exact Nat.ne_of_lt (Nat.lt_succ_self _)) #[a, b, c],
    ⟨⟨_, Heap.get?_push_size _ rfl, rfl, rfl⟩, hT.push _⟩, fun d hd => ?_, by simp, cmpOf_lt #[a, b, c] (by simp [ha, hb, hc]), fun v' h' tk hP hk => ?_⟩
  · show d < ((s.heap.push _).push _).objs.size
    rw [Heap.size_push, hsz]
    simp only [List.mem_cons, List.not_mem_nil, or_false] at hd
    rcases hd with rfl | rfl
    · rw [hsz]; exact Nat.lt_succ_self _
    · exact Nat.lt_succ_of_lt (Nat.lt_succ_self _)
  · have hold : ∀ d o, s.heap.get? d = some o → h'.get? d = some o := fun d o e => by
      refine hk d o (fun hm => ?_) (Heap.get?_push_of_some _ (Heap.get?_push_of_some _ e))
      have := Heap.lt_size e
      simp only [List.mem_cons, List.not_mem_nil, or_false] at hm
      rw [hm, hsz] at this
      exact Nat.lt_irrefl _ (Nat.lt_of_succ_lt this)
    have e : #[a, b, c][argBest (fun i j => ltV (#[a, b, c].getD i .none) (#[a, b, c].getD j .none)) 2]? = some v' := hP
    rw [hi, hv] at e
    cases e
    exact h h' tk (F.grownK hold) (N.grown hold)
theorem maxMix {k : Nat} (hk : k < 6) {t u v : Tok} (hh : A.handled = none) (F : Fr h₀ L s.heap m) (N : News h₀ L s.heap news)
    (h : ∀ h' tk x, (x = t ∨ x = u ∨ x = v) → Fr h₀ L h' m → News h₀ L h' news → Q (.float (mixM k) x) { s with heap := h', toks := tk }) :
    wpAny (model prog w) A (call (.builtin "max") [.float (mixV k).1 t, .float (mixV k).2.1 u, .float (mixV k).2.2 v]) Q E s := by
  have hk6 : k = 0 ∨ k = 1 ∨ k = 2 ∨ k = 3 ∨ k = 4 ∨ k = 5 := by omega
  rcases hk6 with rfl | rfl | rfl | rfl | rfl | rfl
  · exact max3v 0 hh F N (.float ..) (.float ..) (.float ..) (by kernel_rfl) rfl fun h' tk => h h' tk _ (.inl rfl)
  · exact max3v 0 hh F N (.float ..) (.float ..) (.float ..) (by kernel_rfl) rfl fun h' tk => h h' tk _ (.inl rfl)
  · exact max3v 1 hh F N (.float ..) (.float ..) (.float ..) (by kernel_rfl) rfl fun h' tk => h h' tk _ (.inr (.inl rfl))
  · exact max3v 1 hh F N (.float ..) (.float ..) (.float ..) (by kernel_rfl) rfl fun h' tk => h h' tk _ (.inr (.inl rfl))
  · exact max3v 2 hh F N (.float ..) (.float ..) (.float ..) (by kernel_rfl) rfl fun h' tk => h h' tk _ (.inr (.inr rfl))
  · exact max3v 0 hh F N (.float ..) (.float ..) (.float ..) (by kernel_rfl) rfl fun h' tk => h h' tk _ (.inl rfl)
theorem minMix {k : Nat} (hk : k < 6) {t u v : Tok} (hh : A.handled = none) (F : Fr h₀ L s.heap m) (N : News h₀ L s.heap news)
    (h : ∀ h' tk x, Fr h₀ L h' m → News h₀ L h' news → Q (.float f0 x) { s with heap := h', toks := tk }) :
    wpAny (model prog w) A (call (.builtin "min") [.float (mixV k).1 t, .float (mixV k).2.1 u, .float (mixV k).2.2 v]) Q E s := by
  have hk6 : k = 0 ∨ k = 1 ∨ k = 2 ∨ k = 3 ∨ k = 4 ∨ k = 5 := by omega
  rcases hk6 with rfl | rfl | rfl | rfl | rfl | rfl
  · exact min3v 1 hh F N (.float ..) (.float ..) (.float ..) (by kernel_rfl) rfl fun h' tk => h h' tk _
  · exact min3v 2 hh F N (.float ..) (.float ..) (.float ..) (by kernel_rfl) rfl fun h' tk => h h' tk _
  · exact min3v 0 hh F N (.float ..) (.float ..) (.float ..) (by kernel_rfl) rfl fun h' tk => h h' tk _
  · exact min3v 0 hh F N (.float ..) (.float ..) (.float ..) (by kernel_rfl) rfl fun h' tk => h h' tk _
  · exact min3v 0 hh F N (.float ..) (.float ..) (.float ..) (by kernel_rfl) rfl fun h' tk => h h' tk _
  · exact min3v 1 hh F N (.float ..) (.float ..) (.float ..) (by kernel_rfl) rfl fun h' tk => h h' tk _
end
theorem news3f {h₀ h : Heap} {L D : Addr} {x y z x' y' z' : UInt64} {t u v : Tok} {news : Led} (N : News h₀ L h ((D, ({ cls := .type "tuple", data := .seq #[.float x t, .float y u, .float z v] } : Obj)) :: news)) (h1 : x = x') (h2 : y = y') (h3 : z = z') :
    News h₀ L h ((D, tup [.float x' t, .float y' u, .float z' v]) :: news) := by
  subst h1; subst h2; subst h3; exact N
/-- a contract that tells the tokens' range too: lo is the count ahead of the call, hi the count behind it -/
noncomputable def CT (K : World → Frag) (prog : PySem.Program) (w : World) (H : Heap → Prop) (f : Addr) (dd uu : Nat) (news : Led) (vs : List Value) (W : Nat → (Nat → Value → Led → Prop) → Prop) : Prop :=
  ∀ (p : PySem.Program) (loose : List PySem.Str) (mean : ExcName → Option Value) (mg mb : PySem.Str → Option Value) (dp un : Nat) (gd : Option (List Code)) (cn : PySem.Str) (cs : Scope) (L a : Addr) (ccd : Value) (cl : List (PySem.Str × Addr)) (outer : List Env) (A₀ : Around) (base h₀ : Heap) (m : PySem.Str → Option Value) (s : Shared) (Q E : Value → Shared → Prop),
    Below A₀ base outer h₀ → Fr h₀ L s.heap m → (K w).In h₀ → News h₀ L s.heap news → Top p loose mean mg mb h₀ → H base → cs.kind = .function → dp + dd < recursionLimit → un + uu < cLine →
    (W s.toks fun hi v news' => ∀ h', Fr h₀ L h' m → News h₀ L h' news' → Q v { s with heap := h', toks := hi }) →
    wpAny (model prog w) (ktrTop dp un gd cn cs L a ccd cl outer) (call (.ref f) vs) Q E s
theorem CT.use {K : World → Frag} {prog : PySem.Program} {w : World} {H : Heap → Prop} {f : Addr} {dd uu : Nat} {news : Led} {vs : List Value} {W : Nat → (Nat → Value → Led → Prop) → Prop} (C : CT K prog w H f dd uu news vs W) {p : PySem.Program} {loose : List PySem.Str} {mean : ExcName → Option Value} {mg mb : PySem.Str → Option Value} {dp un : Nat} {gd : Option (List Code)} {cn : PySem.Str} {cs : Scope} {L a : Addr} {ccd : Value} {cl : List (PySem.Str × Addr)} {outer : List Env} {A₀ : Around} {base h₀ : Heap} {m : PySem.Str → Option Value} {s : Shared} {Q E : Value → Shared → Prop}
    (B : Below A₀ base outer h₀) (F : Fr h₀ L s.heap m) (X : (K w).In h₀) (N : News h₀ L s.heap news) (T : Top p loose mean mg mb h₀) (hH : H base) (hk : cs.kind = .function) (hd : dp + dd < recursionLimit) (hu : un + uu < cLine)
    (h : W s.toks fun hi v news' => ∀ h', Fr h₀ L h' m → News h₀ L h' news' → Q v { s with heap := h', toks := hi }) :
    wpAny (model prog w) (ktrTop dp un gd cn cs L a ccd cl outer) (call (.ref f) vs) Q E s := C _ _ _ _ _ _ _ _ _ _ _ _ _ _ _ _ _ _ _ _ _ _ B F X N T hH hk hd hu h
section
variable {A : Around} {s : Shared}
theorem EqF {K : Frag} {x y : UInt64} {b : Bool} {t u : Tok} (X : K.In s.heap) (e : nsIn K cStatics sharingNotToldKey = some none) (ht : t ≠ 0) (hu : u ≠ 0) (htu : t = u → x = y) (hx : (Float64.cmp x y == some Ordering.eq) = b) (hs : x = y → b = true) : EqAt A s (.float x t) (.float y u) b := fun prog w E Q h => by
  unfold eqBool
  refine wpAny_holding ?_
  refine wpAny_ite_split (fun hab => ?_) (fun _ => ?_)
  · have e : x = y := by have := eq_of_beq hab; injection this
    have hb := hs e
    subst hb
    exact wpAny_bind (wpAny_rule (wpAny_pure h))
  · dsimp only
    refine wpAny_bind (same_float X e ht hu htu fun c hc => ?_)
    cases c with
    | true =>
      have hb := hs (hc rfl)
      subst hb
      rw [if_pos rfl]; exact wpAny_pure h
    | false =>
      rw [if_neg Bool.false_ne_true]
      refine wpAny_bind (PySem.AutoFloatOps.eq_0 (prog := prog) (w := w) ?_)
      rw [hx]
      exact wpAny_truthy_bool h
/-- a corner's tuple: red, green, blue for 0, 1, 2 -/
noncomputable def colL (k : Nat) : List UInt64 := [(rgbOf (2 * k)).1, (rgbOf (2 * k)).2.1, (rgbOf (2 * k)).2.2]
noncomputable abbrev colO (k : Nat) (t u v : Tok) : Obj := tup [.float (rgbOf (2 * k)).1 t, .float (rgbOf (2 * k)).2.1 u, .float (rgbOf (2 * k)).2.2 v]
noncomputable def cmpC (i j : Nat) : Bool := (List.range 3).all fun n => decide ((colL i).getD n 0 = (colL j).getD n 0)
theorem cmpC_eq {i j : Nat} (hi : i < 3) (hj : j < 3) : cmpC i j = decide (i = j) := by
  have h3 : i = 0 ∨ i = 1 ∨ i = 2 := by omega
  have k3 : j = 0 ∨ j = 1 ∨ j = 2 := by omega
  rcases h3 with rfl | rfl | rfl <;> rcases k3 with rfl | rfl | rfl <;> decide +kernel
theorem eqf01 {x y : UInt64} (hx : x = f0 ∨ x = f1) (hy : y = f0 ∨ y = f1) : (Float64.cmp x y == some Ordering.eq) = decide (x = y) := by
  rcases hx with rfl | rfl <;> rcases hy with rfl | rfl <;> decide +kernel
theorem col01 {k : Nat} (hk : k < 3) : ((rgbOf (2 * k)).1 = f0 ∨ (rgbOf (2 * k)).1 = f1) ∧ ((rgbOf (2 * k)).2.1 = f0 ∨ (rgbOf (2 * k)).2.1 = f1) ∧ ((rgbOf (2 * k)).2.2 = f0 ∨ (rgbOf (2 * k)).2.2 = f1) := by
  have h3 : k = 0 ∨ k = 1 ∨ k = 2 := by omega
  rcases h3 with rfl | rfl | rfl <;> decide
variable {K : Frag} {h₀ : Heap} {L a b : Addr} {news : Led} {i j : Nat} {t u v t' u' v' : Tok}
theorem EqF1 {x y : UInt64} (X : K.In s.heap) (e : nsIn K cStatics sharingNotToldKey = some none) (hx : x = f0 ∨ x = f1) (hy : y = f0 ∨ y = f1) (ht : t ≠ 0) (hu : u ≠ 0) (htu : x ≠ y → t ≠ u) : EqAt A s (.float x t) (.float y u) (decide (x = y)) :=
  EqF X e ht hu (fun h => Classical.byContradiction fun c => htu c h) (eqf01 hx hy) fun h => decide_eq_true h
/-- what two colours' tokens must keep: none is 0, and unlike colours have unlike ones -/
noncomputable def TokOk (i j : Nat) (t u v t' u' v' : Tok) : Prop := t ≠ 0 ∧ u ≠ 0 ∧ v ≠ 0 ∧ t' ≠ 0 ∧ u' ≠ 0 ∧ v' ≠ 0 ∧ (i ≠ j → t ≠ t' ∧ u ≠ u' ∧ v ≠ v')
theorem col_elem (X : K.In s.heap) (e : nsIn K cStatics sharingNotToldKey = some none) (hi : i < 3) (hj : j < 3) (ok : TokOk i j t u v t' u' v') (n : Nat)
    (h1 : n < (#[Value.float (rgbOf (2 * i)).1 t, .float (rgbOf (2 * i)).2.1 u, .float (rgbOf (2 * i)).2.2 v] : Array Value).size) (h2 : n < (#[Value.float (rgbOf (2 * j)).1 t', .float (rgbOf (2 * j)).2.1 u', .float (rgbOf (2 * j)).2.2 v'] : Array Value).size) :
    EqAt A s (#[Value.float (rgbOf (2 * i)).1 t, .float (rgbOf (2 * i)).2.1 u, .float (rgbOf (2 * i)).2.2 v] : Array Value)[n] (#[Value.float (rgbOf (2 * j)).1 t', .float (rgbOf (2 * j)).2.1 u', .float (rgbOf (2 * j)).2.2 v'] : Array Value)[n]
      (decide ((colL i).getD n 0 = (colL j).getD n 0)) := by
  obtain ⟨o1, o2, o3, o4, o5, o6, o7⟩ := ok
  have ne : ∀ {f : Nat → UInt64}, f i ≠ f j → i ≠ j := fun {f} h e => h (by rw [e])
  match n, h1 with
  | 0, _ => exact EqF1 X e (col01 hi).1 (col01 hj).1 o1 o4 fun h => (o7 (ne (f := fun k => (rgbOf (2 * k)).1) h)).1
  | 1, _ => exact EqF1 X e (col01 hi).2.1 (col01 hj).2.1 o2 o5 fun h => (o7 (ne (f := fun k => (rgbOf (2 * k)).2.1) h)).2.1
  | 2, _ => exact EqF1 X e (col01 hi).2.2 (col01 hj).2.2 o3 o6 fun h => (o7 (ne (f := fun k => (rgbOf (2 * k)).2.2) h)).2.2
theorem isTup_of {h : Heap} {vs : List Value} (N : News h₀ L h news) (hm : (a, tup vs) ∈ news) : h.IsTuple a vs.toArray := ⟨_, (N _ hm).1, rfl, 0, rfl⟩
theorem isList_of {h : Heap} {vs : List Value} {n : Nat} (N : News h₀ L h news) (hm : (a, W.listOf vs.toArray n) ∈ news) : h.IsList a vs.toArray := ⟨_, (N _ hm).1, rfl, n, rfl⟩
theorem col_rc (X : K.In s.heap) (e : nsIn K cStatics sharingNotToldKey = some none) (N : News h₀ L s.heap news) (ha : (a, colO i t u v) ∈ news) (hb : (b, colO j t' u' v') ∈ news) (hi : i < 3) (hj : j < 3) (ok : TokOk i j t u v t' u' v') (hu : A.units < cLine) : RcAt A s (.ref a) (.ref b) (decide (i = j)) := by
  have h : RcAt A s (.ref a) (.ref b) (cmpC i j && true) := RcAt.tuples (A := A) (isTup_of N ha) (isTup_of N hb) hu (col_elem X e hi hj ok)
  rwa [Bool.and_true, cmpC_eq hi hj] at h
end
section
variable {prog : PySem.Program} {w : World} {A : Around} {E : Value → Shared → Prop} {s : Shared} {h₀ : Heap} {L a b : Addr} {news : Led} {Q : Value → Shared → Prop} {i j : Nat} {K : Frag} {t u v t' u' v' : Tok}
theorem eq_col (X : K.In s.heap) (e : nsIn K cStatics sharingNotToldKey = some none) (N : News h₀ L s.heap news) (ha : (a, colO i t u v) ∈ news) (hb : (b, colO j t' u' v') ∈ news) (hi : i < 3) (hj : j < 3) (ok : TokOk i j t u v t' u' v') (hu : A.units < cLine) (h : Q (.bool (decide (i = j))) s) : wpAny (model prog w) A (compareOp .Eq (.ref a) (.ref b)) Q E s :=
  col_rc X e N ha hb hi hj ok hu prog w E Q h
end
/-- the mixture of two corners: its place among the sums, and the corner that _law_mixed makes of it -/
noncomputable def mixIx (i j : Nat) : Nat := if i = j then 2 * i else match i + j with | 1 => 1 | 2 => 5 | _ => 3
noncomputable def mixK (i j : Nat) : Nat := if i = j then i else 3 - i - j
theorem lt3 {i : Nat} (h : i < 3) : i = 0 ∨ i = 1 ∨ i = 2 := by omega
theorem all33 {P : Nat → Nat → Prop} (h : P 0 0 ∧ P 0 1 ∧ P 0 2 ∧ P 1 0 ∧ P 1 1 ∧ P 1 2 ∧ P 2 0 ∧ P 2 1 ∧ P 2 2) {i j : Nat} (hi : i < 3) (hj : j < 3) : P i j := by
  obtain ⟨a, b, c, d, e, f, g, k, l⟩ := h
  rcases lt3 hi with rfl | rfl | rfl <;> rcases lt3 hj with rfl | rfl | rfl <;> assumption
theorem mixIx_lt {i j : Nat} (hi : i < 3) (hj : j < 3) : mixIx i j < 6 := all33 (P := fun i j => mixIx i j < 6) (by decide +kernel) hi hj
theorem mixK_lt {i j : Nat} (hi : i < 3) (hj : j < 3) : mixK i j < 3 := all33 (P := fun i j => mixK i j < 3) (by decide +kernel) hi hj
theorem mix_add1 {i j : Nat} (hi : i < 3) (hj : j < 3) : Float64.add (rgbOf (2 * i)).1 (rgbOf (2 * j)).1 = (mixV (mixIx i j)).1 := all33 (P := fun i j => Float64.add (rgbOf (2 * i)).1 (rgbOf (2 * j)).1 = (mixV (mixIx i j)).1) (by decide +kernel) hi hj
theorem mix_add2 {i j : Nat} (hi : i < 3) (hj : j < 3) : Float64.add (rgbOf (2 * i)).2.1 (rgbOf (2 * j)).2.1 = (mixV (mixIx i j)).2.1 := all33 (P := fun i j => Float64.add (rgbOf (2 * i)).2.1 (rgbOf (2 * j)).2.1 = (mixV (mixIx i j)).2.1) (by decide +kernel) hi hj
theorem mix_add3 {i j : Nat} (hi : i < 3) (hj : j < 3) : Float64.add (rgbOf (2 * i)).2.2 (rgbOf (2 * j)).2.2 = (mixV (mixIx i j)).2.2 := all33 (P := fun i j => Float64.add (rgbOf (2 * i)).2.2 (rgbOf (2 * j)).2.2 = (mixV (mixIx i j)).2.2) (by decide +kernel) hi hj
theorem mix_six {i j : Nat} (hi : i < 3) (hj : j < 3) : (((mixIx i j : Nat) : Int) + ((mixIx i j : Nat) : Int).fmod 2 * 3).fmod 6 = ((2 * mixK i j : Nat) : Int) := all33 (P := fun i j => (((mixIx i j : Nat) : Int) + ((mixIx i j : Nat) : Int).fmod 2 * 3).fmod 6 = ((2 * mixK i j : Nat) : Int)) (by decide +kernel) hi hj
theorem mix_max {i j : Nat} (hi : i < 3) (hj : j < 3) : mixM (mixIx i j) = if i = j then f2 else f1 := all33 (P := fun i j => mixM (mixIx i j) = if i = j then f2 else f1) (by decide +kernel) hi hj
theorem my_int_mix {prog : PySem.Program} {w : World} {A : Around} {E : Value → Shared → Prop} {s : Shared} {Q : Value → Shared → Prop} {t : Tok} {k : Nat} (hk : k < 6) (h : Q (.int (k : Int) s.toks) { s with toks := s.toks + 1 }) : wpAny (model prog w) A (call (.type "int") [.float (Float64.mul (mixH k) 4618441417868443648) t]) Q E s := by
  have hk6 : k = 0 ∨ k = 1 ∨ k = 2 ∨ k = 3 ∨ k = 4 ∨ k = 5 := by omega
  rcases hk6 with rfl | rfl | rfl | rfl | rfl | rfl
  · exact my_int_hue (k := 0) (by decide) h
  · exact my_int_hue (k := 1) (by decide) h
  · exact my_int_hue (k := 2) (by decide) h
  · exact my_int_hue (k := 3) (by decide) h
  · exact my_int_hue (k := 4) (by decide) h
  · exact my_int_hue (k := 5) (by decide) h
theorem step_frameT {M : Model} {A : Around} {t : Sem Value} {Q E : Value → Shared → Prop} {s : Shared} {h₀ : Heap} {L : Addr} {m : PySem.Str → Option Value} {nw : Led} (_ : Fr h₀ L s.heap m) (_ : News h₀ L s.heap nw) (W : (Nat → Value → Prop) → Prop)
    (k : ∀ Q' : Value → Shared → Prop, (W fun tk v => ∀ h', Fr h₀ L h' m → News h₀ L h' nw → Q' v { s with heap := h', toks := tk }) → wpAny M A t Q' E s)
    (h : W fun tk v => ∀ h', Fr h₀ L h' m → News h₀ L h' nw → Q v { s with heap := h', toks := tk }) : wpAny M A t Q E s := k Q h
theorem my_half {prog : PySem.Program} {w : World} {A : Around} {E : Value → Shared → Prop} {s : Shared} {Q : Value → Shared → Prop} {t u : Tok} (h : Q (.float f1 s.toks) { s with toks := s.toks + 1 }) : wpAny (model prog w) A (binaryOp .Div (.float f2 t) (.int 2 u)) Q E s := by
  refine cl_divfi (by decide +kernel) (by decide +kernel) ?_
  have e : Float64.div f2 (Float64.ofInt 2) = f1 := by decide +kernel
  rw [e]; exact h
theorem tokBd {lo n k x t : Nat} (h : x = t ∨ n ≤ x ∧ x < k) (q : lo ≤ t ∧ t < n) (r : n ≤ k) : lo ≤ x ∧ x < k := by
  rcases h with rfl | h
  · exact ⟨q.1, Nat.lt_of_lt_of_le q.2 r⟩
  · exact ⟨Nat.le_trans q.1 (Nat.le_trans (Nat.le_of_lt q.2) h.1), h.2⟩
end Mine
end
section
open PySem PySem.W PyProof.Rows PySem.Calls PySem.Spec PyProof.Rows.LCg
namespace Mine
/-- as many of each power of three as the figures to the base 3 tell, the greatest first -/
noncomputable def leapsGo : Nat → Nat → Nat → List Int → List Int
  | 0, _, _, acc => acc
  | f + 1, c, l, acc => if c = 0 then acc else leapsGo f (c / 3) (l * 3) (List.replicate (c % 3) (l : Int) ++ acc)
noncomputable def leapsL (c : Nat) : List Int := leapsGo 10 c 1 []
noncomputable def LvP (T30 T37 : Obj → Led → Prop) (a30 a37 : Addr) (T0 news : Led) (R : List Int) (n : Nat) (m : PySem.Str → Option Value) (nw : Led) : Prop :=
  ∀ C : Led → Prop, (∀ (c l : Nat) (acc : List Int) (vs : List Value) (D : Addr) (k : Nat) (tc tl : Tok) (o30 o37 : Obj) (ext : Led), c ≤ n → n ≤ 10 → c ≤ 9 → IntsAre vs acc → acc.length + c ≤ 12 → m (PySem.Str.ofString "count") = some (.int c tc) → m (PySem.Str.ofString "leap") = some (.int l tl) → m (PySem.Str.ofString "leaps") = some (.ref D) →
    leapsGo n c l acc = R → T30 o30 (ext ++ T0) → T37 o37 (ext ++ T0) → (∀ q ∈ ext, (∀ z ∈ news, z.1 < q.1) ∧ @LT.lt Nat _ a37 q.1) → @LT.lt Nat _ a37 D →
    C ((D, W.listOf vs.toArray k) :: (a30, o30) :: (a37, o37) :: (ext ++ news))) → C nw
noncomputable def LvX (T30 T37 : Obj → Led → Prop) (a30 a37 : Addr) (T0 news : Led) (R : List Int) (m : PySem.Str → Option Value) (nw : Led) : Prop :=
  ∀ C : Led → Prop, (∀ (vs : List Value) (D : Addr) (k : Nat) (o30 o37 : Obj) (ext : Led), m (PySem.Str.ofString "leaps") = some (.ref D) → IntsAre vs R → T30 o30 (ext ++ T0) → T37 o37 (ext ++ T0) → (∀ q ∈ ext, (∀ z ∈ news, z.1 < q.1) ∧ @LT.lt Nat _ a37 q.1) →
    C ((D, W.listOf vs.toArray k) :: (a30, o30) :: (a37, o37) :: (ext ++ news))) → C nw
theorem leapsGo_zero : ∀ (n l : Nat) (acc : List Int), leapsGo n 0 l acc = acc
  | 0, _, _ => rfl
  | _ + 1, _, _ => rfl
theorem cne0 {c : Nat} (h : ¬ c = 0) : ((c : Int) != 0) = true := by rw [bne_iff_ne]; omega
theorem permLv {d D a b : Addr × Obj} {e1 e n : Led} : ∀ p ∈ d :: D :: a :: b :: ((e1 ++ e) ++ n), p ∈ d :: a :: b :: (e1 ++ D :: (e ++ n)) :=
  FMC.all ⟨.head _, FMC.all ⟨.tail _ (.tail _ (.tail _ (List.mem_append_right _ (.head _)))), FMC.all ⟨.tail _ (.head _), FMC.all ⟨.tail _ (.tail _ (.head _)), fun p hp => .tail _ (.tail _ (.tail _ ((List.mem_append.mp hp).elim (fun h => (List.mem_append.mp h).elim (List.mem_append_left _) (fun h => List.mem_append_right _ (.tail _ (List.mem_append_left _ h)))) (fun h => List.mem_append_right _ (.tail _ (List.mem_append_right _ h))))))⟩⟩⟩⟩
theorem freshLv {D : Addr × Obj} {e1 e n : Led} {a : Addr} (h1 : ∀ q ∈ e1, (∀ p ∈ D :: (e ++ n), p.1 < q.1) ∧ @LT.lt Nat _ a q.1) (h : ∀ q ∈ e, (∀ p ∈ n, p.1 < q.1) ∧ @LT.lt Nat _ a q.1) : ∀ q ∈ e1 ++ e, (∀ p ∈ n, p.1 < q.1) ∧ @LT.lt Nat _ a q.1 := fun q hq =>
  (List.mem_append.mp hq).elim (fun hq => ⟨fun p hp => (h1 q hq).1 p (.tail _ (List.mem_append_right _ hp)), (h1 q hq).2⟩) (h q)
theorem ints_flat {vs : List Value} {n : Nat} {l : Int} {acc : List Int} (h : IntsAre vs ((List.replicate (Int.toNat (n : Int)) [l]).flatten ++ acc)) : IntsAre vs (List.replicate n l ++ acc) := by
  rwa [Int.toNat_natCast, List.flatten_replicate_singleton] at h
end Mine
end
section
open PySem PySem.W PyProof.Rows PySem.Calls PySem.Spec PyProof.Rows.LCg
namespace Mine
noncomputable def letN : Nat → Nat
  | 0 => 114 | 1 => 103 | _ => 98
noncomputable def lets (r : List Nat) : List Nat := r.map letN
/-- the row beneath: their letter beneath two alike, else the third -/
noncomputable def nextR : List Nat → List Nat
  | a :: b :: r => mixK a b :: nextR (b :: r)
  | _ => []
noncomputable def rowsL : Nat → List Nat → List (List Nat)
  | 0, _ => []
  | n + 1, r => r :: rowsL n (nextR r)
theorem nextR_length : ∀ r : List Nat, (nextR r).length = r.length - 1
  | [] => rfl
  | [_] => rfl
  | a :: b :: r => by
    show (nextR (b :: r)).length + 1 = _
    rw [nextR_length (b :: r)]; rfl
theorem nextR_lt : ∀ {r : List Nat}, (∀ x ∈ r, x < 3) → ∀ x ∈ nextR r, x < 3
  | [], _, _, h => nomatch h
  | [_], _, _, h => nomatch h
  | a :: b :: r, h, x, hx => by
    rcases List.mem_cons.mp hx with rfl | hx
    · exact mixK_lt (h a (.head _)) (h b (.tail _ (.head _)))
    · exact nextR_lt (fun y hy => h y (.tail _ hy)) x hx
/-- one sign replaced -/
theorem replL_one (p : Nat) (Z : List Nat) : ∀ l : List Nat, replL [p] Z l 0 = l.flatMap fun c => if c = p then Z else [c]
  | [] => rfl
  | c :: r => by
    rw [replL, List.flatMap_cons, replL_one p Z r]
    by_cases h : c = p
    · subst h
      simp only [List.isPrefixOf, beq_self_eq_true, Bool.and_self, Bool.true_and, if_true]
      rw [show replL [c] Z r ([c].length - 1) = replL [c] Z r 0 from rfl, replL_one c Z r]
    · have e : ([p].isPrefixOf (c :: r)) = false := by simp [List.isPrefixOf, Ne.symm h]
      rw [e, if_neg h]; rfl
/-- the signs between commas -/
noncomputable def glue : List (List Nat) → List Nat
  | [] => []
  | [a] => a
  | a :: b :: r => a ++ 44 :: glue (b :: r)
noncomputable def isItem (it : List Nat) : Prop := ∃ a, a ≠ 44 ∧ (it = [a] ∨ ∃ b, b ≠ 44 ∧ it = [a, b])
theorem glue_cons (a : List Nat) : ∀ r, r ≠ [] → glue (a :: r) = a ++ 44 :: glue r
  | [], h => absurd rfl h
  | _ :: _, _ => rfl
theorem replL_skip1 (p q : Nat) (Z : List Nat) (c : Nat) (l : List Nat) (h : c ≠ p) : replL [p, q] Z (c :: l) 0 = c :: replL [p, q] Z l 0 := by
  rw [replL]
  have e : ([p, q].isPrefixOf (c :: l)) = false := by simp [List.isPrefixOf, Ne.symm h]
  rw [e]; rfl
theorem replL_skip2 (p q : Nat) (Z : List Nat) (c d : Nat) (l : List Nat) (h : d ≠ q) : replL [p, q] Z (c :: d :: l) 0 = c :: replL [p, q] Z (d :: l) 0 := by
  rw [replL]
  have e : ([p, q].isPrefixOf (c :: d :: l)) = false := by simp [List.isPrefixOf, Ne.symm h]
  rw [e]; rfl
theorem replL_end (p q : Nat) (Z : List Nat) (c : Nat) : replL [p, q] Z [c] 0 = [c] := by
  rw [replL]
  have e : ([p, q].isPrefixOf [c]) = false := by simp [List.isPrefixOf]
  rw [e]; rfl
theorem replL_hit2 (p q : Nat) (Z l : List Nat) : replL [p, q] Z (p :: q :: l) 0 = Z ++ replL [p, q] Z l 0 := by
  rw [replL]
  have e : ([p, q].isPrefixOf (p :: q :: l)) = true := by simp [List.isPrefixOf]
  rw [e, if_pos rfl]; rfl
theorem replL_item (p q : Nat) (hp : p ≠ 44) (hq : q ≠ 44) (Z it : List Nat) (h : isItem it) (l : List Nat) : replL [p, q] Z (it ++ 44 :: l) 0 = (if it = [p, q] then Z else it) ++ 44 :: replL [p, q] Z l 0 := by
  obtain ⟨a, ha, rfl | ⟨b, hb, rfl⟩⟩ := h
  · have e : ¬ ([a] = [p, q]) := by simp
    rw [if_neg e]
    show replL [p, q] Z (a :: 44 :: l) 0 = a :: 44 :: _
    rw [replL_skip2 _ _ _ _ _ _ (Ne.symm hq), replL_skip1 _ _ _ _ _ (Ne.symm hp)]
  · show replL [p, q] Z (a :: b :: 44 :: l) 0 = _
    by_cases e : ([a, b] : List Nat) = [p, q]
    · rw [if_pos e]
      obtain ⟨rfl, e2⟩ := List.cons.inj e
      obtain ⟨rfl, _⟩ := List.cons.inj e2
      rw [replL_hit2, replL_skip1 _ _ _ _ _ (Ne.symm hp)]
    · rw [if_neg e]
      have key : replL [p, q] Z (b :: 44 :: l) 0 = b :: 44 :: replL [p, q] Z l 0 := by
        rw [replL_skip2 _ _ _ _ _ _ (Ne.symm hq), replL_skip1 _ _ _ _ _ (Ne.symm hp)]
      by_cases e1 : a = p
      · subst e1
        rw [replL_skip2 _ _ _ _ _ _ (fun h => e (by rw [h])), key]; rfl
      · rw [replL_skip1 _ _ _ _ _ e1, key]; rfl
theorem replL_last (p q : Nat) (hp : p ≠ 44) (Z it : List Nat) (h : isItem it) : replL [p, q] Z it 0 = if it = [p, q] then Z else it := by
  obtain ⟨a, ha, rfl | ⟨b, hb, rfl⟩⟩ := h
  · rw [if_neg (by simp), replL_end]
  · by_cases e : ([a, b] : List Nat) = [p, q]
    · rw [if_pos e]
      obtain ⟨rfl, e2⟩ := List.cons.inj e
      obtain ⟨rfl, _⟩ := List.cons.inj e2
      rw [replL_hit2, replL, List.append_nil]
    · rw [if_neg e]
      by_cases e1 : a = p
      · subst e1
        rw [replL_skip2 _ _ _ _ _ _ (fun h => e (by rw [h])), replL_end]
      · rw [replL_skip1 _ _ _ _ _ e1, replL_end]
theorem replL_glue (p q : Nat) (hp : p ≠ 44) (hq : q ≠ 44) (Z : List Nat) : ∀ its : List (List Nat), (∀ it ∈ its, isItem it) → replL [p, q] Z (glue its) 0 = glue (its.map fun it => if it = [p, q] then Z else it)
  | [], _ => rfl
  | [a], h => replL_last p q hp Z a (h a (.head _))
  | a :: b :: r, h => by
    rw [List.map_cons, glue_cons a (b :: r) (List.cons_ne_nil _ _), replL_item p q hp hq Z a (h a (.head _)), replL_glue p q hp hq Z (b :: r) fun it hi => h it (.tail _ hi)]
    rfl
noncomputable abbrev S (x : String) : PySem.Str := PySem.Str.ofString x
noncomputable def ps3 (t0 u0 t1 u1 t2 u2 : Tok) : List RPr := [((S "r", t0), (S "r,r", u0)), ((S "g", t1), (S "g,g", u1)), ((S "b", t2), (S "b,b", u2))]
noncomputable def ps10 (t0 u0 t1 u1 t2 u2 t3 u3 t4 u4 t5 u5 t6 u6 t7 u7 t8 u8 t9 u9 : Tok) : List RPr :=
  [((S "rr", t0), (S "r", u0)), ((S "gg", t1), (S "g", u1)), ((S "bb", t2), (S "b", u2)), ((S "rg", t3), (S "b", u3)), ((S "gr", t4), (S "b", u4)), ((S "gb", t5), (S "r", u5)), ((S "bg", t6), (S "r", u6)), ((S "br", t7), (S "g", u7)), ((S "rb", t8), (S "g", u8)), ((S ",", t9), (S "", u9))]
noncomputable def dbl (l : List Nat) : List Nat := l.flatMap fun c => [c, 44, c]
theorem letN3 {k : Nat} (h : k < 3) : letN k = 114 ∨ letN k = 103 ∨ letN k = 98 := by
  rcases lt3 h with rfl | rfl | rfl
  · exact .inl rfl
  · exact .inr (.inl rfl)
  · exact .inr (.inr rfl)
theorem flatMap_congr' {l : List Nat} {f g : Nat → List Nat} (h : ∀ c ∈ l, f c = g c) : l.flatMap f = l.flatMap g := by
  induction l with
  | nil => rfl
  | cons a r ih => rw [List.flatMap_cons, List.flatMap_cons, h a (.head _), ih fun c hc => h c (.tail _ hc)]
theorem rep3_text {t0 u0 t1 u1 t2 u2 : Tok} (l : List Nat) (h : ∀ c ∈ l, c = 114 ∨ c = 103 ∨ c = 98) : repF (ps3 t0 u0 t1 u1 t2 u2) l = dbl l := by
  show replL [98] [98, 44, 98] (replL [103] [103, 44, 103] (replL [114] [114, 44, 114] l 0) 0) 0 = _
  rw [replL_one, replL_one, replL_one, List.flatMap_assoc, List.flatMap_assoc]
  refine flatMap_congr' fun c hc => ?_
  rcases h c hc with rfl | rfl | rfl <;> decide +kernel
/-- the pairs of neighbours -/
noncomputable def prs : List Nat → List (List Nat)
  | a :: b :: r => [a, b] :: prs (b :: r)
  | _ => []
theorem prs_ne {a b : Nat} {r : List Nat} : prs (a :: b :: r) ≠ [] := by rw [prs]; exact List.cons_ne_nil _ _
theorem dbl_tail : ∀ (l : List Nat) (a : Nat), l ≠ [] → ∃ z, a :: dbl l = glue (prs (a :: l)) ++ [44, z]
  | [], _, h => absurd rfl h
  | [b], a, _ => ⟨b, rfl⟩
  | b :: c :: r, a, _ => by
    obtain ⟨z, hz⟩ := dbl_tail (c :: r) b (List.cons_ne_nil _ _)
    refine ⟨z, ?_⟩
    rw [prs, glue_cons _ _ prs_ne]
    show a :: b :: 44 :: (b :: dbl (c :: r)) = _
    rw [hz]; rfl
theorem dbl_mid {l : List Nat} (h : 2 ≤ l.length) : ((dbl l).drop 2).take ((dbl l).length - 4) = glue (prs l) := by
  match l, h with
  | a :: b :: r, _ =>
    obtain ⟨z, hz⟩ := dbl_tail (b :: r) a (List.cons_ne_nil _ _)
    have e : dbl (a :: b :: r) = a :: 44 :: (a :: dbl (b :: r)) := rfl
    rw [e, hz]
    simp
theorem map_items {p q z : Nat} (hz : z ≠ 44) {its : List (List Nat)} (h : ∀ it ∈ its, isItem it) : ∀ it ∈ its.map (fun it => if it = [p, q] then [z] else it), isItem it := by
  intro it hi
  obtain ⟨jt, hj, rfl⟩ := List.mem_map.mp hi
  by_cases e : jt = [p, q]
  · simp only [if_pos e]; exact ⟨z, hz, .inl rfl⟩
  · simp only [if_neg e]; exact h jt hj
theorem drop44 : ∀ l : List Nat, (∀ c ∈ l, c ≠ 44) → (l.flatMap fun c => if c = 44 then [] else [c]) = l
  | [], _ => rfl
  | x :: r, hl => by rw [List.flatMap_cons, if_neg (hl x (.head _)), drop44 r fun c hc => hl c (.tail _ hc)]; rfl
theorem unglue1 : ∀ its : List (List Nat), (∀ it ∈ its, ∀ c ∈ it, c ≠ 44) → ((glue its).flatMap fun c => if c = 44 then [] else [c]) = its.flatten
  | [], _ => rfl
  | [a], h => by
    show a.flatMap _ = [a].flatten
    rw [List.flatten_singleton]
    exact drop44 a (h a (.head _))
  | a :: b :: r, h => by
    have ih := unglue1 (b :: r) fun it hi => h it (.tail _ hi)
    rw [glue_cons a (b :: r) (List.cons_ne_nil _ _), List.flatMap_append, List.flatMap_cons, if_pos rfl, List.nil_append, ih, drop44 a (h a (.head _))]
    rfl
theorem unglue {its : List (List Nat)} (h : ∀ it ∈ its, ∀ c ∈ it, c ≠ 44) : replL [44] [] (glue its) 0 = its.flatten := by
  rw [replL_one]; exact unglue1 its h
/-- what the nine pairs make of one pair of letters -/
noncomputable def one9 (it : List Nat) : List Nat :=
  let f := fun (p q z : Nat) (it : List Nat) => if it = [p, q] then [z] else it
  f 114 98 103 (f 98 114 103 (f 98 103 114 (f 103 98 114 (f 103 114 98 (f 114 103 98 (f 98 98 98 (f 103 103 103 (f 114 114 114 it))))))))
theorem one9_mix {a b : Nat} (ha : a < 3) (hb : b < 3) : one9 [letN a, letN b] = [letN (mixK a b)] := all33 (P := fun a b => one9 [letN a, letN b] = [letN (mixK a b)]) (by decide +kernel) ha hb
theorem prs_next : ∀ {r : List Nat}, (∀ x ∈ r, x < 3) → ((prs (lets r)).map one9).flatten = lets (nextR r)
  | [], _ => rfl
  | [_], _ => rfl
  | a :: b :: r, h => by
    have ih := prs_next (r := b :: r) fun x hx => h x (.tail _ hx)
    show (one9 [letN a, letN b] :: ((prs (lets (b :: r))).map one9)).flatten = letN (mixK a b) :: lets (nextR (b :: r))
    rw [List.flatten_cons, ih, one9_mix (h a (.head _)) (h b (.tail _ (.head _)))]; rfl
theorem lets_ne {r : List Nat} (h : ∀ x ∈ r, x < 3) : ∀ c ∈ lets r, c = 114 ∨ c = 103 ∨ c = 98 := by
  intro c hc
  obtain ⟨x, hx, rfl⟩ := List.mem_map.mp hc
  exact letN3 (h x hx)
theorem prs_item : ∀ {l : List Nat}, (∀ c ∈ l, c = 114 ∨ c = 103 ∨ c = 98) → ∀ it ∈ prs l, isItem it
  | [], _, _, h => nomatch h
  | [_], _, _, h => nomatch h
  | a :: b :: r, h, it, hi => by
    have n44 : ∀ c, (c = 114 ∨ c = 103 ∨ c = 98) → c ≠ 44 := by intro c hc; omega
    rcases List.mem_cons.mp hi with rfl | hi
    · exact ⟨a, n44 _ (h a (.head _)), .inr ⟨b, n44 _ (h b (.tail _ (.head _))), rfl⟩⟩
    · exact prs_item (fun c hc => h c (.tail _ hc)) it hi
theorem rep10_text {t0 u0 t1 u1 t2 u2 t3 u3 t4 u4 t5 u5 t6 u6 t7 u7 t8 u8 t9 u9 : Tok} (r : List Nat) (h : ∀ x ∈ r, x < 3) : repF (ps10 t0 u0 t1 u1 t2 u2 t3 u3 t4 u4 t5 u5 t6 u6 t7 u7 t8 u8 t9 u9) (glue (prs (lets r))) = lets (nextR r) := by
  show replL [44] [] (replL [114, 98] [103] (replL [98, 114] [103] (replL [98, 103] [114] (replL [103, 98] [114] (replL [103, 114] [98] (replL [114, 103] [98] (replL [98, 98] [98] (replL [103, 103] [103] (replL [114, 114] [114] (glue (prs (lets r))) 0) 0) 0) 0) 0) 0) 0) 0) 0) 0 = _
  have h0 := prs_item (lets_ne h)
  have h1 := map_items (p := 114) (q := 114) (z := 114) (by decide) h0
  have h2 := map_items (p := 103) (q := 103) (z := 103) (by decide) h1
  have h3 := map_items (p := 98) (q := 98) (z := 98) (by decide) h2
  have h4 := map_items (p := 114) (q := 103) (z := 98) (by decide) h3
  have h5 := map_items (p := 103) (q := 114) (z := 98) (by decide) h4
  have h6 := map_items (p := 103) (q := 98) (z := 114) (by decide) h5
  have h7 := map_items (p := 98) (q := 103) (z := 114) (by decide) h6
  have h8 := map_items (p := 98) (q := 114) (z := 103) (by decide) h7
  have h9 := map_items (p := 114) (q := 98) (z := 103) (by decide) h8
  rw [replL_glue 114 114 (by decide) (by decide) _ _ h0, replL_glue 103 103 (by decide) (by decide) _ _ h1, replL_glue 98 98 (by decide) (by decide) _ _ h2, replL_glue 114 103 (by decide) (by decide) _ _ h3, replL_glue 103 114 (by decide) (by decide) _ _ h4, replL_glue 103 98 (by decide) (by decide) _ _ h5, replL_glue 98 103 (by decide) (by decide) _ _ h6, replL_glue 98 114 (by decide) (by decide) _ _ h7, replL_glue 114 98 (by decide) (by decide) _ _ h8]
  rw [unglue (fun it hi c hc => by
    obtain ⟨a, ha, rfl | ⟨b, hb, rfl⟩⟩ := h9 it hi
    · rw [List.mem_singleton.mp hc]; exact ha
    · rcases List.mem_cons.mp hc with rfl | hc
      · exact ha
      · rw [List.mem_singleton.mp hc]; exact hb)]
  simp only [List.map_map]
  exact prs_next h
theorem repOk3 {x : PySem.Str} (h : x.length ≤ 30) {t0 u0 t1 u1 t2 u2 : Tok} : RepOk (ps3 t0 u0 t1 u1 t2 u2) x := by
  refine ⟨by omega, by dsimp only; decide +kernel, by dsimp only; decide +kernel, by dsimp only; decide +kernel, fun x1 e1 => ?_⟩
  have l1 := rep_len3 e1 (by dsimp only; decide +kernel)
  refine ⟨by omega, by dsimp only; decide +kernel, by dsimp only; decide +kernel, by dsimp only; decide +kernel, fun x2 e2 => ?_⟩
  have l2 := rep_len3 e2 (by dsimp only; decide +kernel)
  refine ⟨by omega, by dsimp only; decide +kernel, by dsimp only; decide +kernel, by dsimp only; decide +kernel, fun x3 e3 => ?_⟩
  have l3 := rep_len3 e3 (by dsimp only; decide +kernel)
  exact True.intro
theorem repOk10 {x : PySem.Str} (h : x.length ≤ 900) {t0 u0 t1 u1 t2 u2 t3 u3 t4 u4 t5 u5 t6 u6 t7 u7 t8 u8 t9 u9 : Tok} : RepOk (ps10 t0 u0 t1 u1 t2 u2 t3 u3 t4 u4 t5 u5 t6 u6 t7 u7 t8 u8 t9 u9) x := by
  refine ⟨by omega, by dsimp only; decide +kernel, by dsimp only; decide +kernel, by dsimp only; decide +kernel, fun x1 e1 => ?_⟩
  have l1 := rep_len1 e1 (by dsimp only; decide +kernel)
  refine ⟨by omega, by dsimp only; decide +kernel, by dsimp only; decide +kernel, by dsimp only; decide +kernel, fun x2 e2 => ?_⟩
  have l2 := rep_len1 e2 (by dsimp only; decide +kernel)
  refine ⟨by omega, by dsimp only; decide +kernel, by dsimp only; decide +kernel, by dsimp only; decide +kernel, fun x3 e3 => ?_⟩
  have l3 := rep_len1 e3 (by dsimp only; decide +kernel)
  refine ⟨by omega, by dsimp only; decide +kernel, by dsimp only; decide +kernel, by dsimp only; decide +kernel, fun x4 e4 => ?_⟩
  have l4 := rep_len1 e4 (by dsimp only; decide +kernel)
  refine ⟨by omega, by dsimp only; decide +kernel, by dsimp only; decide +kernel, by dsimp only; decide +kernel, fun x5 e5 => ?_⟩
  have l5 := rep_len1 e5 (by dsimp only; decide +kernel)
  refine ⟨by omega, by dsimp only; decide +kernel, by dsimp only; decide +kernel, by dsimp only; decide +kernel, fun x6 e6 => ?_⟩
  have l6 := rep_len1 e6 (by dsimp only; decide +kernel)
  refine ⟨by omega, by dsimp only; decide +kernel, by dsimp only; decide +kernel, by dsimp only; decide +kernel, fun x7 e7 => ?_⟩
  have l7 := rep_len1 e7 (by dsimp only; decide +kernel)
  refine ⟨by omega, by dsimp only; decide +kernel, by dsimp only; decide +kernel, by dsimp only; decide +kernel, fun x8 e8 => ?_⟩
  have l8 := rep_len1 e8 (by dsimp only; decide +kernel)
  refine ⟨by omega, by dsimp only; decide +kernel, by dsimp only; decide +kernel, by dsimp only; decide +kernel, fun x9 e9 => ?_⟩
  have l9 := rep_len1 e9 (by dsimp only; decide +kernel)
  refine ⟨by omega, by dsimp only; decide +kernel, by dsimp only; decide +kernel, by dsimp only; decide +kernel, fun x10 e10 => ?_⟩
  have l10 := rep_len1 e10 (by dsimp only; decide +kernel)
  exact True.intro
noncomputable abbrev strL (l : List Nat) : PySem.Str := ⟨(lets l).toArray⟩
noncomputable def ByP (news : Led) (R : List PySem.Str) (n : Nat) (m : PySem.Str → Option Value) (nw : Led) : Prop :=
  ∀ C : Led → Prop, (∀ (r : List Nat) (done : List PySem.Str) (ws : List Value) (D : Addr) (k : Nat) (tx : Tok), r.length = n → 1 ≤ n → (∀ x ∈ r, x < 3) → StrsAre ws (done ++ [strL r]) → done.length + n ≤ 10 → m (PySem.Str.ofString "row") = some (.str (strL r) tx) → m (PySem.Str.ofString "rows") = some (.ref D) →
    done ++ (rowsL n r).map strL = R → (∀ q ∈ news, q.1 < D) → C ((D, W.listOf ws.toArray k) :: news)) → C nw
noncomputable def ByX (news : Led) (R : List PySem.Str) (m : PySem.Str → Option Value) (nw : Led) : Prop :=
  ∀ C : Led → Prop, (∀ (ws : List Value) (D : Addr) (k : Nat), StrsAre ws R → m (PySem.Str.ofString "rows") = some (.ref D) → (∀ q ∈ news, q.1 < D) → C ((D, W.listOf ws.toArray k) :: news)) → C nw
theorem strL_len (l : List Nat) : (strL l).length = l.length := by simp [strL, lets, PySem.Str.length]
theorem slice_mid {x : PySem.Str} (h : 4 ≤ x.length) : (Txt.slice x (some 2) (some (-2))).cps.toList = (x.cps.toList.drop 2).take (x.length - 4) := by
  have e : PySem.Builtin.Str.strSliceIndices (some 2) (some (-2)) 1 x.length = PySem.Builtin.Str.strSliceIndices (some ((2 : Nat) : Int)) (some ((x.length - 2 : Nat) : Int)) 1 x.length := by
    rw [StrLaws.sliceIdx_neg_hi _ _ (by omega) (by omega), show ((-2 : Int) + (x.length : Int)) = ((x.length - 2 : Nat) : Int) by omega]; rfl
  have p := StrLaws.sliced_plain x (a := 2) (b := x.length - 2) (by omega) (by omega)
  have q := StrLaws.strSliceIndices_plain (a := 2) (b := x.length - 2) (len := x.length) (by omega) (by omega)
  have ql : (PySem.Builtin.Str.strSliceIndices (some ((2 : Nat) : Int)) (some ((x.length - 2 : Nat) : Int)) 1 x.length).length ≠ x.length := by
    rw [q, List.length_map, List.length_range]; omega
  unfold Txt.slice
  rw [e, if_neg (by rw [Bool.and_eq_true]; exact fun c => ql (eq_of_beq c.2)), p, show x.length - 2 - 2 = x.length - 4 by omega]
theorem dbl_len (l : List Nat) : (dbl l).length = 3 * l.length := by
  induction l with
  | nil => rfl
  | cons a r ih => show (a :: 44 :: a :: dbl r).length = _; simp only [List.length_cons, ih]; omega
/-- from a row's doubled text to the next row's text -/
theorem mid_text {y : PySem.Str} {r : List Nat} (hy : y.cps.toList = dbl (lets r)) (h : 2 ≤ r.length) : (Txt.slice y (some 2) (some (-2))).cps.toList = glue (prs (lets r)) := by
  have hl : (lets r).length = r.length := by simp [lets]
  have e : y.length = (dbl (lets r)).length := by rw [← hy]; simp [PySem.Str.length]
  rw [slice_mid (by rw [e, dbl_len, hl]; omega), e, hy, dbl_mid (by rw [hl]; exact h)]
theorem cps_eq {x : PySem.Str} {l : List Nat} (h : x.cps.toList = l) : x = ⟨l.toArray⟩ := by
  cases x with | mk c => rw [← h]
theorem rowsL_succ {n : Nat} {r : List Nat} : rowsL (n + 1) r = r :: rowsL n (nextR r) := rfl
end Mine
end
section
open PySem PySem.W PyProof.Rows PySem.Calls PySem.Spec PyProof.Rows.LCg
open PyProof.V
namespace Mine
/-- two lists of values, each with each -/
noncomputable def Rel2 (R : Value → Value → Prop) : List Value → List Value → Prop
  | [], [] => True
  | a :: r, b :: q => R a b ∧ Rel2 R r q
  | _, _ => False
theorem Rel2.snoc {R : Value → Value → Prop} {a b : Value} (h : R a b) : ∀ {r q : List Value}, Rel2 R r q → Rel2 R (r ++ [a]) (q ++ [b])
  | [], [], _ => ⟨h, True.intro⟩
  | _ :: _, _ :: _, ⟨h1, h2⟩ => ⟨h1, Rel2.snoc h h2⟩
  | [], _ :: _, x => x.elim
  | _ :: _, [], x => x.elim
theorem Rel2.ints {f : Int → Int} : ∀ {vs ys : List Value} {ns : List Int}, IntsAre vs ns → Rel2 (fun v y => ∀ x t, v = .int x t → ∃ u, y = .int (f x) u) vs ys → IntsAre ys (ns.map f)
  | _, [], _, .nil, _ => .nil
  | _, y :: _, _, .cons x t r, ⟨h1, h2⟩ => by
    obtain ⟨u, rfl⟩ := h1 x t rfl
    exact .cons _ u (Rel2.ints r h2)
  | _, [], _, .cons .., h => h.elim
  | _, _ :: _, _, .nil, h => h.elim
section
variable {prog : PySem.Program} {w : World} {A : Around} {h₀ : Heap} {L : Addr} {m : PySem.Str → Option Value} {env : Env} {elt : PySem.Expr} {nm : PySem.Str} {scope : Scope} {cl : List (PySem.Str × Addr)} {s : Shared} {news : Led}
/-- a comprehension over a list, nothing new left over -/
theorem comp_list {vs : List Value} (R : Value → Value → Prop) {Sx : Led → Prop} {Fin : List Value → Led → Prop}
    (turn : ∀ v I oI C oC D m₂ ys h tk (E' : Value → Shared → Prop), v ∈ vs → LCg.NsObj oC m₂ → m₂ nm = some v → Fr h₀ L h m → News h₀ L h ((I, oI) :: (C, oC) :: (D, LCg.lst ys) :: news) → LCg.Off3 I C D news → ((@Ne Nat I C) ∧ (@Ne Nat I D) ∧ (@Ne Nat C D)) →
      wpAny (model prog w) A (eval elt (compEnvC scope cl C env)) (LCg.CompEnd h₀ L m { s with heap := h, toks := tk } I oI C oC D (LCg.lst ys) Sx (fun y news' => news' = news ∧ R v y)) E' { s with heap := h, toks := tk })
    (fin : ∀ ys, Rel2 R vs ys → Fin ys news) : LCg.CompRest prog w A h₀ L m env elt nm scope cl s Sx (fun i v => vs.toArray[i]? = some v) Fin vs.toArray.size 0 [] news := by
  have key : ∀ (j i : Nat) (ys : List Value), i + j = vs.length → Rel2 R (vs.take i) ys → LCg.CompRest prog w A h₀ L m env elt nm scope cl s Sx (fun i v => vs.toArray[i]? = some v) Fin j i ys news := by
    intro j
    induction j with
    | zero =>
      intro i ys hi hy
      have e : i = vs.length := hi
      rw [e, List.take_length] at hy
      exact LCg.CompRest.zero (fin ys hy)
    | succ j ih =>
      intro i ys hi hy
      refine LCg.CompRest.succ ?_
      intro v I oI C oC D m₂ h tk E' hv hC hx F N off ne
      have hv' : vs[i]? = some v := by simpa using hv
      refine wpAny_mono (turn v I oI C oC D m₂ ys h tk E' (List.mem_of_getElem? hv') hC hx F N off ne) (fun y s₂ hq => ?_) fun _ _ e => e
      obtain ⟨h', tk', nw, e, F', N', off', hS, hn, hr⟩ := hq
      rw [hn] at N' off' hS
      refine ⟨h', tk', news, e, F', N', off', hS, ih (i + 1) _ (by omega) ?_⟩
      rw [List.take_add_one, hv']
      exact Rel2.snoc hr hy
  have e : vs.toArray.size = vs.length := by simp
  rw [e]
  exact key vs.length 0 [] (by omega) (by rw [List.take_zero]; exact True.intro)
variable {a b : PySem.Str} {i0 : Led → Prop} {keep : Led} {Fin : Nat → List Value → Led → Prop}
/-- a comprehension over two lists of numbers, side by side -/
theorem mrest_ints (f : Int → Int → Int) (n₀ : Nat)
    (turn : ∀ x y t u its C oC D m₂ ys h tk (E' : Value → Shared → Prop), n₀ ≤ tk → i0 its → LCg.NsObj oC m₂ → m₂ a = some (.int x t) → m₂ b = some (.int y u) → Fr h₀ L h m → News h₀ L h ((C, oC) :: (D, LCg.lst ys) :: (news ++ its)) →
      (∀ q ∈ news, q.1 ≠ C ∧ q.1 ≠ D) → (∀ q ∈ news, ∀ z ∈ its, q.1 ≠ z.1) → (∀ q ∈ its, q.1 ≠ C ∧ q.1 ≠ D) → (@Ne Nat C D) →
      wpAny (model prog w) A (eval elt (compEnvC scope cl C env)) (MEnd h₀ L m { s with heap := h, toks := tk } C oC D (LCg.lst ys) its keep (fun k z news' => news' = news ∧ n₀ ≤ k ∧ ∃ t, z = .int (f x y) t)) E' { s with heap := h, toks := tk }) :
    ∀ (v1 v2 : List Value) (l1 l2 : List Int) (ys : List Value) (ns : List Int) (n : Nat), n₀ ≤ n → IntsAre v1 l1 → IntsAre v2 l2 → IntsAre ys ns →
      (∀ (n' : Nat) (zs : List Value), n₀ ≤ n' → IntsAre zs (ns ++ List.zipWith f l1 l2) → Fin n' zs news) →
      MRest prog w A h₀ L m env none elt a b scope cl s i0 keep Fin ((fixed v1).zip (fixed v2)) n ys news := by
  have stop : ∀ (ys : List Value) (ns : List Int) (n : Nat), n₀ ≤ n → IntsAre ys ns → (∀ (n' : Nat) (zs : List Value), n₀ ≤ n' → IntsAre zs (ns ++ []) → Fin n' zs news) → MRest prog w A h₀ L m env none elt a b scope cl s i0 keep Fin [] n ys news :=
    fun ys ns n hn hy fin => MRest.nil (fin n ys hn (by rw [List.append_nil]; exact hy))
  intro v1
  induction v1 with
  | nil =>
    intro v2 l1 l2 ys ns n hn h1 h2 hy fin
    cases h1
    exact stop ys ns n hn hy fin
  | cons p r ih =>
    intro v2 l1 l2 ys ns n hn h1 h2 hy fin
    cases h1 with
    | cons x t h1 =>
      cases h2 with
      | nil => exact stop ys ns n hn hy fin
      | cons y u h2 =>
        refine MRest.cons ?_
        intro t' u' its C oC D m₂ h tk E' hk hi hC ha hb F N off offI offC ne
        refine wpAny_mono (turn x y t u its C oC D m₂ ys h tk E' (Nat.le_trans hn hk) hi hC ha hb F N off offI offC ne) (fun z s₂ hq => ?_) fun _ _ e => e
        intro G k
        refine hq G ?_
        intro h' tk' news' e F' N' o1 o2 hkp hr
        obtain ⟨rfl, hk', t9, rfl⟩ := hr
        refine k h' tk' _ e F' N' o1 o2 hkp ?_
        refine ih _ _ _ _ (ns ++ [f x y]) tk' hk' h1 h2 (intsSnoc hy) ?_
        intro n' zs hn' hz
        refine fin n' zs hn' ?_
        rw [List.append_assoc] at hz
        exact hz
where
  intsSnoc {y : Int} {t : Tok} : ∀ {vs : List Value} {ys : List Int}, IntsAre vs ys → IntsAre (vs ++ [.int y t]) (ys ++ [y])
  | _, _, .nil => .cons y t .nil
  | _, _, .cons z u r => .cons z u (intsSnoc r)
end
theorem nums11 {zs : List Value} {l : List Int} (h : IntsAre zs ([] ++ List.zipWith (fun x y => x + y) [4, 0, 1, 1, 2, 0, 2, 1, 0, 2, 1] (List.take 11 l ++ (List.replicate (Int.toNat 11) [(0 : Int)]).flatten))) : ∃ nums : List Int, IntsAre zs nums ∧ nums.length = 11 :=
  ⟨_, h, by
    rw [List.nil_append, List.length_zipWith, List.length_append]
    exact Nat.min_eq_left (Nat.le_trans (Nat.le_of_eq (by decide +kernel)) (Nat.le_add_left _ _))⟩
theorem row_len' {nums : List Int} (h : nums.length = 11) : (List.take (min (5 + (nums.getD 0 0).fmod 7).toNat nums.length - 1) (List.drop 1 nums)).length = (4 + (nums.getD 0 0).fmod 7).toNat := by
  have h1 : 0 ≤ (nums.getD 0 0).fmod 7 := Int.fmod_nonneg_of_pos _ (by decide)
  have h2 : (nums.getD 0 0).fmod 7 < 7 := Int.fmod_lt_of_pos _ (by decide)
  rw [List.length_take, List.length_drop, h]
  have key : ∀ k : Nat, k < 7 → min (min (5 + (k : Int)).toNat 11 - 1) (11 - 1) = (4 + (k : Int)).toNat := by decide
  obtain ⟨k, hk⟩ := Int.eq_ofNat_of_zero_le h1
  rw [hk] at h2 ⊢
  exact key k (Int.ofNat_lt.mp h2)
theorem row_len {nums : List Int} (h : nums.length = 11) : (List.take (min (5 + (nums.getD 0 0).fmod 7).toNat nums.length - 1) (List.drop 1 nums)).length ≤ 10 := by
  rw [row_len' h]
  have h2 : (nums.getD 0 0).fmod 7 < 7 := Int.fmod_lt_of_pos _ (by decide)
  omega
theorem ints_mem {v : Value} : ∀ {vs : List Value} {ns : List Int}, IntsAre vs ns → v ∈ vs → ∃ x t, v = .int x t
  | _, _, .cons x t r, h => by
    rcases List.mem_cons.mp h with rfl | h
    · exact ⟨x, t, rfl⟩
    · exact ints_mem r h
theorem mods3 : ∀ l : List Int, ∃ r : List Nat, l.map (fun x => x.fmod 3) = castL r ∧ (∀ x ∈ r, x < 3) ∧ r.length = l.length
  | [] => ⟨[], rfl, (fun _ h => nomatch h), rfl⟩
  | x :: l => by
    obtain ⟨r, e, h, hl⟩ := mods3 l
    have h1 : 0 ≤ x.fmod 3 := Int.fmod_nonneg_of_pos _ (by decide)
    have h2 : x.fmod 3 < 3 := Int.fmod_lt_of_pos _ (by decide)
    refine ⟨(x.fmod 3).toNat :: r, ?_, ?_, by rw [List.length_cons, List.length_cons, hl]⟩
    · rw [List.map_cons, e]
      show _ = ((x.fmod 3).toNat : Int) :: castL r
      rw [Int.toNat_of_nonneg h1]
    · intro y hy
      rcases List.mem_cons.mp hy with rfl | hy
      · omega
      · exact h y hy
theorem row_of {nums : List Int} {ws ys : List Value} (h : nums.length = 11) (hI : IntsAre ws (List.take (min (5 + (nums.getD 0 0).fmod 7).toNat nums.length - 1) (List.drop 1 nums))) (hy : Rel2 (fun v y => ∀ x t, v = .int x t → ∃ u, y = .int (x.fmod 3) u) ws ys) :
    ∃ r : List Nat, IntsAre ys (castL r) ∧ (∀ x ∈ r, x < 3) ∧ 4 ≤ r.length ∧ r.length ≤ 10 := by
  have z := Rel2.ints hI hy
  obtain ⟨r, e, h3, hl⟩ := mods3 (List.take (min (5 + (nums.getD 0 0).fmod 7).toNat nums.length - 1) (List.drop 1 nums))
  refine ⟨r, e ▸ z, h3, ?_, by rw [hl]; exact row_len h⟩
  rw [hl, row_len' h]
  have h1 : 0 ≤ (nums.getD 0 0).fmod 7 := Int.fmod_nonneg_of_pos _ (by decide)
  omega
end Mine
end
section
open PySem PySem.W PyProof.Rows PySem.Calls PySem.Spec PyProof.Rows.LCg
open PyProof.V PySem.SeqAt
namespace Mine
/-- the row so many rows beneath -/
noncomputable def itR : Nat → List Nat → List Nat
  | 0, r => r
  | n + 1, r => itR n (nextR r)
theorem itR_succ : ∀ (n : Nat) (r : List Nat), itR (n + 1) r = nextR (itR n r)
  | 0, _ => rfl
  | n + 1, r => itR_succ n (nextR r)
theorem rowsL_snoc : ∀ (n : Nat) (r : List Nat), rowsL (n + 1) r = rowsL n r ++ [itR n r]
  | 0, _ => rfl
  | n + 1, r => by
    show r :: rowsL (n + 1) (nextR r) = r :: (rowsL n (nextR r) ++ [itR n (nextR r)])
    rw [rowsL_snoc n (nextR r)]
theorem rowsL_length : ∀ (n : Nat) (r : List Nat), (rowsL n r).length = n
  | 0, _ => rfl
  | n + 1, r => by show (rowsL n (nextR r)).length + 1 = _; rw [rowsL_length n]
theorem rowsL_get : ∀ (n i : Nat) (r : List Nat), i < n → (rowsL n r)[i]? = some (itR i r)
  | 0, _, _, h => absurd h (Nat.not_lt_zero _)
  | _ + 1, 0, _, _ => rfl
  | n + 1, i + 1, r, h => rowsL_get n i (nextR r) (Nat.lt_of_succ_lt_succ h)
theorem itR_lt : ∀ (n : Nat) {r : List Nat}, (∀ x ∈ r, x < 3) → ∀ x ∈ itR n r, x < 3
  | 0, _, h => h
  | n + 1, _, h => itR_lt n (nextR_lt h)
theorem itR_length : ∀ (n : Nat) (r : List Nat), (itR n r).length = r.length - n
  | 0, _ => rfl
  | n + 1, r => by show (itR n (nextR r)).length = _; rw [itR_length n, nextR_length, Nat.sub_sub, Nat.add_comm 1 n]
/-- values that are rows of the ledger -/
noncomputable def RowsAre (led : Led) : List Value → List (List Nat) → Prop
  | [], [] => True
  | v :: vs, r :: rs => (∃ a ws k, v = .ref a ∧ (a, W.listOf ws.toArray k) ∈ led ∧ IntsAre ws (castL r)) ∧ RowsAre led vs rs
  | _, _ => False
theorem RowsAre.mono {led led' : Led} (h : ∀ p ∈ led, p ∈ led') : ∀ {vs : List Value} {rs : List (List Nat)}, RowsAre led vs rs → RowsAre led' vs rs
  | [], [], _ => True.intro
  | _ :: _, _ :: _, ⟨⟨a, ws, k, e, hm, hi⟩, r⟩ => ⟨⟨a, ws, k, e, h _ hm, hi⟩, RowsAre.mono h r⟩
  | [], _ :: _, x => x.elim
  | _ :: _, [], x => x.elim
theorem RowsAre.snoc {led : Led} {a : Addr} {ws : List Value} {k : Nat} {q : List Nat} (hm : (a, W.listOf ws.toArray k) ∈ led) (hi : IntsAre ws (castL q)) : ∀ {vs : List Value} {rs : List (List Nat)}, RowsAre led vs rs → RowsAre led (vs ++ [.ref a]) (rs ++ [q])
  | [], [], _ => ⟨⟨a, ws, k, rfl, hm, hi⟩, True.intro⟩
  | _ :: _, _ :: _, ⟨h, r⟩ => ⟨h, RowsAre.snoc hm hi r⟩
  | [], _ :: _, x => x.elim
  | _ :: _, [], x => x.elim
theorem RowsAre.len {led : Led} : ∀ {vs : List Value} {rs : List (List Nat)}, RowsAre led vs rs → vs.length = rs.length
  | [], [], _ => rfl
  | _ :: _, _ :: _, ⟨_, r⟩ => by rw [List.length_cons, List.length_cons, RowsAre.len r]
  | [], _ :: _, x => x.elim
  | _ :: _, [], x => x.elim
theorem RowsAre.get {led : Led} : ∀ {vs : List Value} {rs : List (List Nat)}, RowsAre led vs rs → ∀ (i : Nat) (q : List Nat), rs[i]? = some q → ∃ a ws k, vs[i]? = some (.ref a) ∧ (a, W.listOf ws.toArray k) ∈ led ∧ IntsAre ws (castL q)
  | _ :: _, _ :: _, ⟨⟨a, ws, k, e, hm, hi⟩, _⟩, 0, q, hq => by
    cases hq
    exact ⟨a, ws, k, by rw [e]; rfl, hm, hi⟩
  | _ :: _, _ :: _, ⟨_, r⟩, i + 1, q, hq => RowsAre.get r i q hq
  | [], [], _, i, q, hq => by cases hq
  | [], _ :: _, x, _, _, _ => x.elim
  | _ :: _, [], x, _, _, _ => x.elim
theorem mixI {a b : Nat} (ha : a < 3) (hb : b < 3) : (-(a : Int) - (b : Int)).fmod 3 = ((mixK a b : Nat) : Int) := all33 (P := fun a b => (-(a : Int) - (b : Int)).fmod 3 = ((mixK a b : Nat) : Int)) (by decide +kernel) ha hb
theorem zip_next : ∀ {r : List Nat}, (∀ x ∈ r, x < 3) → List.zipWith (fun x y : Int => (-x - y).fmod 3) (castL r) (List.drop 1 (castL r)) = castL (nextR r)
  | [], _ => rfl
  | [_], _ => rfl
  | a :: b :: r, h => by
    have ih := zip_next (r := b :: r) fun x hx => h x (.tail _ hx)
    show (-(a : Int) - (b : Int)).fmod 3 :: List.zipWith _ (castL (b :: r)) (castL r) = ((mixK a b : Nat) : Int) :: castL (nextR (b :: r))
    rw [mixI (h a (.head _)) (h b (.tail _ (.head _)))]
    exact congrArg _ ih
/-- the rows told so far: i + 1 of them -/
noncomputable def RwP (I Lc Dr D5 : Addr) (ob oc od : Obj) (c : Nat) (r : List Nat) (ys : List Value) (ky : Nat) (k i : Nat) (m : PySem.Str → Option Value) (nw : Led) : Prop :=
  ∀ C : Led → Prop, (∀ (refs : List Value) (kk : Nat) (rws : Led) (tc : Tok), k + i = c → RowsAre rws refs (rowsL (i + 1) r) → (D5, W.listOf ys.toArray ky) ∈ rws → (∀ q ∈ rws, q.1 ≠ Dr ∧ q.1 ≠ Lc ∧ q.1 ≠ 51 ∧ q.1 ≠ 44 ∧ q.1 ≠ I) →
    m (PySem.Str.ofString "rows") = some (.ref Dr) → m (PySem.Str.ofString "row") = some (.ref D5) → m (PySem.Str.ofString "count") = some (.int c tc) → C ((Dr, W.listOf refs.toArray kk) :: (Lc, ob) :: (51, oc) :: (44, od) :: rws)) → C nw
section
variable {prog : PySem.Program} {w : World} {A : Around} {E : Value → Shared → Prop} {s : Shared} {h₀ : Heap} {L : Addr} {m : PySem.Str → Option Value} {news : Led} {Q : Value → Shared → Prop}
theorem my_last {value slice : PySem.Expr} {a : Addr} {vs : List Value} {n : Nat} {u : Tok} {x : Value} (N : News h₀ L s.heap news) (hm : (a, W.listOf vs.toArray n) ∈ news) (hx : vs[vs.length - 1]? = some x) (h0 : 0 < vs.length) (h : Q x s)
    (hs : subscripted slice false (.ref a) (.int (-1) u) = operate [.ref a, .int (-1) u] (getItem (.ref a) (.int (-1) u)) := by with_unfolding_all rfl) (hg : ∀ r, letTemporaryGo value (.ref a) r = pure () := by intro _; with_unfolding_all rfl) :
    wpAny (model prog w) A (subscriptTail value slice (.ref a) (.int (-1) u)) Q E s := by
  have hl := isList_of N hm
  refine subscriptTail_builtin hl.typeIs slot_list_getitem.lookup (wpAny_getItem_list_neg hl (by decide) ?_ (by decide) ?_ h) hs hg
  · rw [List.size_toArray]; omega
  · rw [List.size_toArray, show ((-1 : Int) + (vs.length : Int)).toNat = vs.length - 1 by rw [Int.add_comm]; exact Int.toNat_sub vs.length 1, List.getElem?_toArray]; exact hx
theorem my_at {value slice : PySem.Expr} {a : Addr} {vs : List Value} {n : Nat} {k : Int} {u : Tok} {x : Value} (N : News h₀ L s.heap news) (hm : (a, W.listOf vs.toArray n) ∈ news) (h0 : 0 ≤ k) (h1 : k < 2 ^ 63) (hx : vs[k.toNat]? = some x) (h : Q x s)
    (hs : subscripted slice false (.ref a) (.int k u) = operate [.ref a, .int k u] (getItem (.ref a) (.int k u)) := by with_unfolding_all rfl) (hg : ∀ r, letTemporaryGo value (.ref a) r = pure () := by intro _; with_unfolding_all rfl) :
    wpAny (model prog w) A (subscriptTail value slice (.ref a) (.int k u)) Q E s := item_listL (isList_of N hm) h0 h1 hx h hs hg
end
section
variable {prog : PySem.Program} {w : World} {A : Around} {h₀ : Heap} {L : Addr} {m : PySem.Str → Option Value} {env : Env} {elt : PySem.Expr} {nm : PySem.Str} {scope : Scope} {cl : List (PySem.Str × Addr)} {s : Shared} {news : Led}
/-- the same, each place told -/
theorem comp_idx {vs : List Value} (R : Nat → Value → Prop) {Sx : Led → Prop} {Fin : List Value → Led → Prop}
    (turn : ∀ i v I oI C oC D m₂ ys h tk (E' : Value → Shared → Prop), vs[i]? = some v → LCg.NsObj oC m₂ → m₂ nm = some v → Fr h₀ L h m → News h₀ L h ((I, oI) :: (C, oC) :: (D, LCg.lst ys) :: news) → LCg.Off3 I C D news → ((@Ne Nat I C) ∧ (@Ne Nat I D) ∧ (@Ne Nat C D)) →
      wpAny (model prog w) A (eval elt (compEnvC scope cl C env)) (LCg.CompEnd h₀ L m { s with heap := h, toks := tk } I oI C oC D (LCg.lst ys) Sx (fun y news' => news' = news ∧ R i y)) E' { s with heap := h, toks := tk })
    (fin : ∀ ys : List Value, ys.length = vs.length → (∀ i y, ys[i]? = some y → R i y) → Fin ys news) : LCg.CompRest prog w A h₀ L m env elt nm scope cl s Sx (fun i v => vs.toArray[i]? = some v) Fin vs.toArray.size 0 [] news := by
  have key : ∀ (j i : Nat) (ys : List Value), i + j = vs.length → ys.length = i → (∀ i y, ys[i]? = some y → R i y) → LCg.CompRest prog w A h₀ L m env elt nm scope cl s Sx (fun i v => vs.toArray[i]? = some v) Fin j i ys news := by
    intro j
    induction j with
    | zero => exact fun i ys hi hl hy => LCg.CompRest.zero (fin ys (hl.trans hi) hy)
    | succ j ih =>
      intro i ys hi hl hy
      refine LCg.CompRest.succ ?_
      intro v I oI C oC D m₂ h tk E' hv hC hx F N off ne
      have hv' : vs[i]? = some v := by simpa using hv
      refine wpAny_mono (turn i v I oI C oC D m₂ ys h tk E' hv' hC hx F N off ne) (fun y s₂ hq => ?_) fun _ _ e => e
      obtain ⟨h', tk', nw, e, F', N', off', hS, hn, hr⟩ := hq
      rw [hn] at N' off' hS
      refine ⟨h', tk', news, e, F', N', off', hS, ih (i + 1) _ (by omega) (by rw [List.length_append, hl]; rfl) fun i' y' hy' => ?_⟩
      rcases Nat.lt_or_ge i' ys.length with hlt | hge
      · exact hy i' y' (by rwa [List.getElem?_append_left hlt] at hy')
      · rw [List.getElem?_append_right hge] at hy'
        have e0 : i' - ys.length = 0 := by
          rcases Nat.eq_zero_or_pos (i' - ys.length) with e | e
          · exact e
          · rw [List.getElem?_eq_none (by rw [List.length_singleton]; exact e)] at hy'; cases hy'
        rw [e0] at hy'
        cases hy'
        have e1 : i' = i := by omega
        rw [e1]; exact hr
  have e : vs.toArray.size = vs.length := by simp
  rw [e]
  exact key vs.length 0 [] (by omega) rfl (fun _ _ h => by cases h)
end
theorem strs_idx : ∀ {ys : List Value} {rs : List PySem.Str}, ys.length = rs.length → (∀ (i : Nat) (y : Value), ys[i]? = some y → ∃ (q : PySem.Str) (t : Tok), rs[i]? = some q ∧ y = Value.str q t) → StrsAre ys rs
  | [], [], _, _ => .nil
  | [], _ :: _, h, _ => by cases h
  | _ :: _, [], h, _ => by cases h
  | y :: ys, q :: rs, h, hy => by
    obtain ⟨q', t, e1, e2⟩ := hy 0 y rfl
    cases e1
    subst e2
    exact .cons _ t (strs_idx (Nat.succ.inj h) fun i y hi => hy (i + 1) y hi)
noncomputable def letJ (k : Int) : PySem.Str := ⟨#[letN k.toNat]⟩
theorem join_letJ : ∀ l : List Int, (PySem.Str.join (PySem.Str.ofString "") (l.map letJ)).cps.toList = l.map fun k => letN k.toNat
  | [] => rfl
  | [a] => rfl
  | a :: b :: r => by
    have h := join_letJ (b :: r)
    rw [List.map_cons, join_list2 _ _ _ (by simp), h]
    rfl
theorem join_lets (q : List Nat) : Txt.join (PySem.Str.ofString "") ((castL q).map letJ) = strL q := by
  refine cps_eq ?_
  show (PySem.Builtin.Str.glued _ _).cps.toList = _
  rw [StrLaws.glued_eq_join, join_letJ, List.map_map]
  rfl
theorem cast3 {k : Int} {q : List Nat} (h : ∀ x ∈ q, x < 3) (hk : k ∈ castL q) : k = 0 ∨ k = 1 ∨ k = 2 := by
  obtain ⟨x, hx, rfl⟩ := List.mem_map.mp hk
  rcases lt3 (h x hx) with rfl | rfl | rfl
  · exact .inl rfl
  · exact .inr (.inl rfl)
  · exact .inr (.inr rfl)
theorem told_strs {ys : List Value} {r : List Nat} {n : Nat} (hl : ys.length = n) (hy : ∀ (j : Nat) (y : Value), ys[j]? = some y → ∃ t, y = Value.str (strL (itR j r)) t) : StrsAre ys ((rowsL n r).map strL) :=
  strs_idx (by rw [List.length_map, rowsL_length, hl]) fun j y hj => by
    obtain ⟨t, e⟩ := hy j y hj
    have hlt : j < n := by have := (List.getElem?_eq_some_iff.mp hj).1; omega
    exact ⟨_, t, by rw [List.getElem?_map, rowsL_get _ _ _ hlt]; rfl, e⟩
section
variable {prog : PySem.Program} {w : World} {A : Around} {E : Value → Shared → Prop} {s : Shared} {h₀ : Heap} {L a b : Addr} {news : Led} {Q : Value → Shared → Prop}
theorem ne_strs {vs us : List Value} {ss : List PySem.Str} {n m : Nat} (N : News h₀ L s.heap news) (ha : (a, W.listOf vs.toArray n) ∈ news) (hb : (b, W.listOf us.toArray m) ∈ news) (h1 : StrsAre vs ss) (h2 : StrsAre us ss) (hu : A.units + 64 < cLine) (h : Q (.bool false) s) :
    wpAny (model prog w) A (compareOp .NotEq (.ref a) (.ref b)) Q E s := by
  have l1 := h1.len_eq
  have l2 := h2.len_eq
  refine (RcNeAt.lists (A := A) (e := fun _ => true) (isList_of N ha) (isList_of N hb) (by simp [l1, l2]) (by omega) (fun i p1 p2 => ?_)) prog w E Q (by rw [show (List.range vs.toArray.size).all (fun _ => true) = true from List.all_eq_true.mpr fun _ _ => rfl]; exact h)
  have p1' : i < ss.length := by rw [List.size_toArray] at p1; omega
  obtain ⟨t, e1⟩ := StrsAre.at h1 (List.getElem?_eq_getElem p1')
  obtain ⟨u, e2⟩ := StrsAre.at h2 (List.getElem?_eq_getElem p1')
  have f1 := (List.getElem?_eq_some_iff.mp e1).2
  have f2 := (List.getElem?_eq_some_iff.mp e2).2
  have z := EqAt.str_str (A := A.in1) (s := s) ss[i] t ss[i] u
  rw [beq_self_eq_true] at z
  simpa [f1, f2] using z
end
end Mine
end
section
open PySem PySem.W PyProof.Rows PySem.Calls PySem.Spec
namespace Mine
/-- a leap: each letter with the one so far on -/
noncomputable def leapD (d : Nat) (r : List Nat) : List Nat := List.zipWith mixK r (r.drop d)
noncomputable def oM : Option Nat → Option Nat → Option Nat
  | some a, some b => some (mixK a b)
  | _, _ => none
theorem leapD_get (d : Nat) (r : List Nat) (i : Nat) : (leapD d r)[i]? = oM r[i]? r[i + d]? := by
  rw [leapD, List.getElem?_zipWith, List.getElem?_drop, Nat.add_comm d i]
  cases r[i]? <;> cases r[i + d]? <;> rfl
theorem mix81 {a b c d : Nat} (ha : a < 3) (hb : b < 3) (hc : c < 3) (hd : d < 3) : mixK (mixK (mixK a b) (mixK b c)) (mixK (mixK b c) (mixK c d)) = mixK a d := by
  have key : ∀ a, a < 3 → ∀ b, b < 3 → ∀ c, c < 3 → ∀ d, d < 3 → mixK (mixK (mixK a b) (mixK b c)) (mixK (mixK b c) (mixK c d)) = mixK a d := by decide +kernel
  exact key a ha b hb c hc d hd
theorem leap_three (d : Nat) (r : List Nat) (h : ∀ x ∈ r, x < 3) : leapD d (leapD d (leapD d r)) = leapD (3 * d) r := by
  refine List.ext_getElem? fun i => ?_
  have e : i + 3 * d = i + d + d + d := by rw [Nat.succ_mul, Nat.succ_mul, Nat.one_mul, ← Nat.add_assoc, ← Nat.add_assoc]
  simp only [leapD_get, e]
  cases e3 : r[i + d + d + d]? with
  | none => cases r[i]? <;> cases r[i + d]? <;> cases r[i + d + d]? <;> rfl
  | some w =>
    have hlt := (List.getElem?_eq_some_iff.mp e3).1
    have m : ∀ j, j ≤ i + d + d + d → ∃ x, r[j]? = some x ∧ x < 3 := fun j hj => ⟨_, List.getElem?_eq_getElem (Nat.lt_of_le_of_lt hj hlt), h _ (List.getElem_mem _)⟩
    obtain ⟨x2, e2, g2⟩ := m (i + d + d) (Nat.le_add_right _ _)
    obtain ⟨x1, e1, g1⟩ := m (i + d) (Nat.le_trans (Nat.le_add_right _ _) (Nat.le_add_right _ _))
    obtain ⟨x0, e0, g0⟩ := m i (Nat.le_trans (Nat.le_add_right _ _) (Nat.le_trans (Nat.le_add_right _ _) (Nat.le_add_right _ _)))
    rw [e0, e1, e2]
    exact congrArg some (mix81 g0 g1 g2 (h _ (List.mem_of_getElem? e3)))
theorem leap_one : ∀ r : List Nat, leapD 1 r = nextR r
  | [] => rfl
  | [_] => rfl
  | a :: b :: r => by
    have ih := leap_one (b :: r)
    show mixK a b :: List.zipWith mixK (b :: r) ((b :: r).drop 1) = mixK a b :: nextR (b :: r)
    exact congrArg _ ih
theorem itR_add : ∀ (m n : Nat) (r : List Nat), itR (m + n) r = itR n (itR m r)
  | 0, n, r => by rw [Nat.zero_add]; rfl
  | m + 1, n, r => by rw [Nat.succ_add]; exact itR_add m n (nextR r)
theorem leap_it3 (r : List Nat) (h : ∀ x ∈ r, x < 3) : leapD 3 r = itR 3 r := by
  have e := leap_three 1 r h
  rw [leap_one, leap_one, leap_one] at e
  exact e.symm
theorem leap_it9 (r : List Nat) (h : ∀ x ∈ r, x < 3) : leapD 9 r = itR 9 r := by
  have e := leap_three 3 r h
  rw [leap_it3 r h, leap_it3 _ (itR_lt 3 h), leap_it3 _ (itR_lt 3 (itR_lt 3 h))] at e
  rw [show (9 : Nat) = 3 * 3 from rfl, ← e, ← itR_add, ← itR_add]
/-- every leap of the law tells a row -/
theorem leap_it {l : Nat} (hl : l = 1 ∨ l = 3 ∨ l = 9) (r : List Nat) (h : ∀ x ∈ r, x < 3) : leapD l r = itR l r := by
  rcases hl with rfl | rfl | rfl
  · rw [leap_one]; rfl
  · exact leap_it3 r h
  · exact leap_it9 r h
theorem leapsL_ok : ∀ c, c < 10 → (∀ l ∈ leapsL c, l = 1 ∨ l = 3 ∨ l = 9) ∧ (leapsL c).sum = (c : Int) := by decide +kernel
/-- Pascal's triangle -/
noncomputable def chs : Nat → List Int
  | 0 => [1]
  | n + 1 => List.zipWith (· + ·) (0 :: chs n) (chs n ++ [0])
/-- the numbers' sum, each as often as the list tells -/
noncomputable def dotI : List Int → List Int → Int
  | a :: r, b :: q => a * b + dotI r q
  | _, _ => 0
theorem dot_add : ∀ (p q x : List Int), p.length = q.length → dotI (List.zipWith (· + ·) p q) x = dotI p x + dotI q x
  | [], [], _, _ => rfl
  | _ :: _, _ :: _, [], _ => rfl
  | a :: p, b :: q, c :: x, h => by
    have ih := dot_add p q x (Nat.succ.inj h)
    show (a + b) * c + dotI (List.zipWith (· + ·) p q) x = (a * c + dotI p x) + (b * c + dotI q x)
    rw [ih, Int.add_mul]; omega
theorem dot_zero : ∀ (p x : List Int), dotI (p ++ [0]) x = dotI p x
  | [], [] => rfl
  | [], c :: x => by show 0 * c + dotI [] x = 0; rw [Int.zero_mul]; cases x <;> rfl
  | _ :: _, [] => rfl
  | a :: p, c :: x => by show a * c + dotI (p ++ [0]) x = a * c + dotI p x; rw [dot_zero p x]
theorem chs_length : ∀ n, (chs n).length = n + 1
  | 0 => rfl
  | n + 1 => by rw [chs, List.length_zipWith, List.length_cons, List.length_append, chs_length n]; simp
theorem dot_chs (n : Nat) (a : Int) (x : List Int) : dotI (chs (n + 1)) (a :: x) = dotI (chs n) x + dotI (chs n) (a :: x) := by
  rw [chs, dot_add _ _ _ (by rw [List.length_cons, List.length_append]; rfl), dot_zero]
  show 0 * a + dotI (chs n) x + _ = _
  rw [Int.zero_mul, Int.zero_add]
/-- the last letter: what three leaves of the letters' sum, each as often as the triangle tells, with a minus where the count is odd -/
theorem head_sum : ∀ (n : Nat) (r : List Nat), (∀ x ∈ r, x < 3) → n < r.length → ∃ h t, itR n r = h :: t ∧ (3 : Int) ∣ ((h : Int) - (if n % 2 = 1 then -1 else 1) * dotI (chs n) (castL r))
  | 0, x :: r, _, _ => ⟨x, r, rfl, by
    show (3 : Int) ∣ (x : Int) - (if 0 % 2 = 1 then -1 else 1) * (1 * (x : Int) + dotI [] (castL r))
    have e : dotI [] (castL r) = 0 := by cases r <;> rfl
    rw [e]; exact ⟨0, by simp⟩⟩
  | n + 1, x :: r, h3, hn => by
    have hr : n < r.length := Nat.lt_of_succ_lt_succ hn
    obtain ⟨a, t, e1, d1⟩ := head_sum n (x :: r) h3 (Nat.lt_succ_of_lt hr)
    obtain ⟨b, u, e2, d2⟩ := head_sum n r (fun y hy => h3 y (.tail _ hy)) hr
    have tl : itR n r = (itR n (x :: r)).tail := itR_tail n x r
    rw [e1, e2] at tl
    have ht : t = b :: u := tl.symm
    subst ht
    have ha : a < 3 := itR_lt n h3 a (by rw [e1]; exact .head _)
    have hb : b < 3 := itR_lt n h3 b (by rw [e1]; exact .tail _ (.head _))
    refine ⟨mixK a b, nextR (b :: u), by rw [itR_succ, e1]; rfl, ?_⟩
    have hm : (3 : Int) ∣ ((mixK a b : Nat) : Int) + a + b := by
      rw [← mixI ha hb]
      have := Int.fmod_add_mul_fdiv (-(a : Int) - b) 3
      exact ⟨-((-(a : Int) - b).fdiv 3), by omega⟩
    show (3 : Int) ∣ ((mixK a b : Nat) : Int) - (if (n + 1) % 2 = 1 then -1 else 1) * dotI (chs (n + 1)) ((x : Int) :: castL r)
    rw [dot_chs]
    have d1' : (3 : Int) ∣ (a : Int) - (if n % 2 = 1 then -1 else 1) * dotI (chs n) ((x : Int) :: castL r) := d1
    generalize dotI (chs n) (castL r) = p at d2 ⊢
    generalize dotI (chs n) ((x : Int) :: castL r) = q at d1' ⊢
    rcases Nat.mod_two_eq_zero_or_one n with e | e
    · have e' : (n + 1) % 2 = 1 := by omega
      rw [if_pos e']
      rw [if_neg (by omega)] at d1' d2
      omega
    · have e' : ¬ (n + 1) % 2 = 1 := by omega
      rw [if_neg e']
      rw [if_pos e] at d1' d2
      omega
where
  itR_tail : ∀ (n : Nat) (x : Nat) (r : List Nat), itR n r = (itR n (x :: r)).tail
    | 0, _, _ => rfl
    | n + 1, x, [] => by
      have z : ∀ n, itR n [] = [] := by
        intro n
        induction n with
        | zero => rfl
        | succ n ih => exact ih
      show itR n (nextR []) = (itR n (nextR [x])).tail
      show itR n [] = (itR n []).tail
      rw [z]; rfl
    | n + 1, x, y :: r => by
      show itR n (nextR (y :: r)) = (itR n (mixK x y :: nextR (y :: r))).tail
      exact itR_tail n (mixK x y) (nextR (y :: r))
theorem digs_chs : ∀ c, c < 10 → digs (2 ^ 8) (c + 1) (257 ^ c) = chs c := by decide +kernel
end Mine
end
section
open PySem PySem.W PyProof.Rows PySem.Calls PySem.Spec
namespace Mine
section
variable {prog : PySem.Program} {w : World} {A : Around} {E : Value → Shared → Prop} {s : Shared} {env : Env} {h₀ : Heap} {x : PySem.Str} {body : List Stmt} {Q : Flow → Shared → Prop}
/-- what is still to be shown of a for over a list: the tokens' count never falls below the one told last -/
noncomputable def GRest (prog : PySem.Program) (w : World) (A : Around) (h₀ : Heap) (env : Env) (x : PySem.Str) (body : List Stmt) (s : Shared) (Q : Flow → Shared → Prop) (E : Value → Shared → Prop) (I : Addr) (lp : Addr × Obj) : List Value → Nat → (PySem.Str → Option Value) → Led → Prop
  | [], n, m, news => ∀ h tk, n ≤ tk → Fr h₀ env.locals h m → News h₀ env.locals h news → Q .next { s with heap := h, toks := tk }
  | v :: r, n, m, news => ∀ (it : Obj) h tk (Q' : Flow → Shared → Prop), n ≤ tk → Fr h₀ env.locals h (fun y => if y = x then some v else m y) → News h₀ env.locals h ((I, it) :: news) →
      (∀ v s', Q (.ret v) s' → Q' (.ret v) s') → (∀ s', Q .next s' → Q' .brk s') →
      (∀ h' tk' m' all news', Fr h₀ env.locals h' m' → News h₀ env.locals h' all → (∀ p ∈ (I, it) :: news', p ∈ all) → (∀ p ∈ news', p.1 ≠ I) → lp ∈ news' → GRest prog w A h₀ env x body s Q E I lp r tk' m' news' → Q' .next { s with heap := h', toks := tk' }) →
      wpAny (model prog w) A (execs body env) Q' E { s with heap := h, toks := tk }
noncomputable def FoI (h₀ : Heap) (env : Env) (s : Shared) (I : Addr) (lp : Addr × Obj) (St : Nat → Heap → Prop) (n : Nat) (vs : List Value) (rest : List Value → Nat → (PySem.Str → Option Value) → Led → Prop) (k : Nat) (s' : Shared) : Prop :=
  ∀ G : Prop, (∀ h' tk nn i m' news', s' = { s with heap := h', toks := tk } → nn ≤ tk → i ≤ n → k = n + 1 - i → St i h' → Fr h₀ env.locals h' m' → News h₀ env.locals h' news' → (∀ p ∈ news', p.1 ≠ I) → lp ∈ news' → rest (vs.drop i) nn m' news' → G) → G
theorem iter_listG {ax : Addr} {vs : List Value} {n : Nat} {m₀ : PySem.Str → Option Value} {news : Led} {px : Pos} (hh : A.handled = none) (F : Fr h₀ env.locals s.heap m₀) (N : News h₀ env.locals s.heap news) (hm : (ax, W.listOf vs.toArray n) ∈ news) (hx : env.kindOf x = some .local)
    (hp : (env.scope.kind == .class || (env.scope.kind == .module && env.locals != env.globals)) = false) (hE : PassesOwn (model prog w) A env E)
    (rest₀ : ∀ I : Addr, (∀ p ∈ news, p.1 < I) → GRest prog w A h₀ env x body s Q E I (ax, W.listOf vs.toArray n) vs s.toks m₀ news) :
    wpAny (model prog w) A (pyIter (.ref ax)) (fun it s₂ => codeAny (model prog w) A (.forLoop (.Name x px) it body [] env) (fun r s' => match r with | .ok f => Q f s' | .error e => cameBackBy (model prog w) A env E e s') s₂) E s := by
  have hax := N _ hm
  have hl : s.heap.IsList ax vs.toArray := ⟨_, hax.1, rfl, n, rfl⟩
  have hlt : ax < s.heap.objs.size := Heap.lt_size hax.1
  have hne : ax ≠ s.heap.objs.size := Nat.ne_of_lt hlt
  refine wpAny_pyIter_list hl ?_
  have rest := rest₀ s.heap.objs.size fun p hp => Heap.lt_size (N p hp).1
  have WK := Walks.list (prog := prog) (w := w) hh s.heap.objs.size ax hne vs.toArray
  have hnew := next_is_new F
  have hlen : vs.toArray.size = vs.length := by simp
  rw [hlen] at WK
  have hLf : env.locals ≠ s.heap.objs.size := Nat.ne_of_lt F.ns.lt
  refine codeAny_forLoop (FoI h₀ env s s.heap.objs.size (ax, W.listOf vs.toArray n) (fun i h => h.IsListIter s.heap.objs.size ax i ∧ h.IsList ax vs.toArray) vs.length vs (GRest prog w A h₀ env x body s Q E s.heap.objs.size (ax, W.listOf vs.toArray n))) ?_ (vs.length + 1)
    (fun _ k => k _ _ s.toks 0 m₀ news rfl (Nat.le_refl _) (Nat.zero_le _) rfl ⟨⟨_, Heap.get?_push_size _ rfl, rfl, rfl⟩, hl.at fun o e => Heap.get?_push_of_some _ e⟩ (F.push _) (fun p hp => ⟨Heap.get?_push_of_some _ (N p hp).1, (N p hp).2⟩) (fun p hp => Nat.ne_of_lt (Heap.lt_size (N p hp).1)) hm (by rw [List.drop_zero]; exact rest))
  intro k s' hI
  refine hI _ ?_
  clear hI
  rintro h' tk nn i m' news' rfl hge hi rfl hst F' N' off hmm R
  have next : ∀ h₁ : Heap, (∀ b o, b ∉ [s.heap.objs.size] → h'.get? b = some o → h₁.get? b = some o) → Fr h₀ env.locals h₁ m' ∧ News h₀ env.locals h₁ news' := fun h₁ hk =>
    ⟨⟨F'.ns.at' fun o e => hk _ o (by simpa using hLf) e, fun b o e => hk b o (fun hb => by rw [List.mem_singleton.mp hb, hnew] at e; cases e) (F'.keep b o e), F'.above⟩, fun p hp => ⟨hk _ _ (by simpa using off p hp) (N' p hp).1, (N' p hp).2⟩⟩
  by_cases hlt : i < vs.length
  · refine wpAny_grow (WK.item i _ _ _ hlt hst fun v h₁ tk₁ hP hst₁ hk₁ => ?_)
    intro hg₁
    obtain ⟨F₁, N₁⟩ := next h₁ hk₁
    refine wpAny_grow (wpAny_assign_Name (wpAny_storeName_local hx F₁.ns (fun h₂ hn₂ hs₂ => ?_) hp))
    intro hg₂
    have F₂ := F₁.set hn₂ hs₂
    have N₂ := N₁.set hs₂
    obtain ⟨it, hit, hic⟩ := hst₁.1
    have hit₂ : h₂.get? s.heap.objs.size = some it := (hs₂.2 _ (Ne.symm hLf)).trans hit
    have hdrop : vs.drop i = v :: vs.drop (i + 1) := by
      have hv : vs[i]? = some v := by simpa using hP
      rw [List.drop_eq_getElem_cons hlt]
      congr 1
      exact Option.some.inj ((List.getElem?_eq_getElem hlt).symm.trans hv)
    rw [hdrop] at R
    have N₃ : News h₀ env.locals h₂ ((s.heap.objs.size, it) :: news') := fun p hp => by
      rcases List.mem_cons.mp hp with rfl | hp
      · exact ⟨hit₂, Ne.symm hLf, hnew⟩
      · exact N₂ p hp
    refine wpAny_passesOwn hE (R it h₂ _ _ (Nat.le_trans hge (Nat.le_trans hg₁ hg₂)) F₂ N₃ (fun v s' q => q) (fun s' q => q) ?_)
    intro h₅ tk₅ m₅ all news₅ F₅ N₅ sub off₅ hm₅ R₅
    refine ⟨vs.length + 1 - (i + 1), by omega, fun _ kk => kk h₅ tk₅ tk₅ (i + 1) m₅ news₅ rfl (Nat.le_refl _) hlt rfl ?_ F₅ (fun p hp => N₅ p (sub p (.tail _ hp))) off₅ hm₅ R₅⟩
    refine ⟨⟨it, (N₅ _ (sub _ (.head _))).1, hic⟩, ⟨_, (N₅ _ (sub _ (.tail _ hm₅))).1, rfl, n, rfl⟩⟩
  · have hin : i = vs.length := Nat.le_antisymm hi (Nat.not_lt.mp hlt)
    subst hin
    rw [List.drop_length] at R
    refine wpAny_grow (WK.done _ _ _ hst fun h₁ tk₁ hk₁ => ?_)
    intro hg
    obtain ⟨F₁, N₁⟩ := next h₁ hk₁
    exact wpAny_execs_nil (R h₁ tk₁ (Nat.le_trans hge hg) F₁ N₁)
end
end Mine
end
section
open PySem PySem.W PyProof.Rows PySem.Calls PySem.Spec PyProof.Rows.LCg
open PyProof.V PySem.SeqAt
namespace Mine
/-- values that are colours of the ledger, their tokens under n, each two fit to be mixed -/
noncomputable def Cols (led : Led) (n : Nat) (vs : List Value) (rs : List Nat) : Prop :=
  vs.length = rs.length ∧ ∀ (i j k l : Nat), rs[i]? = some k → rs[j]? = some l → ∃ (a b : Addr) (t u v t' u' v' : Tok), vs[i]? = some (.ref a) ∧ vs[j]? = some (.ref b) ∧ (a, colO k t u v) ∈ led ∧ (b, colO l t' u' v') ∈ led ∧ (t < n ∧ u < n ∧ v < n) ∧ TokOk k l t u v t' u' v'
theorem Cols.mono {led led' : Led} {n n' : Nat} {vs : List Value} {rs : List Nat} (h : ∀ p ∈ led, p ∈ led') (hn : n ≤ n') (C : Cols led n vs rs) : Cols led' n' vs rs :=
  ⟨C.1, fun i j k l hi hj => by
    obtain ⟨a, b, t, u, v, t', u', v', e1, e2, m1, m2, ⟨q1, q2, q3⟩, ok⟩ := C.2 i j k l hi hj
    exact ⟨a, b, t, u, v, t', u', v', e1, e2, h _ m1, h _ m2, ⟨Nat.lt_of_lt_of_le q1 hn, Nat.lt_of_lt_of_le q2 hn, Nat.lt_of_lt_of_le q3 hn⟩, ok⟩⟩
theorem Cols.nil {led : Led} {n : Nat} : Cols led n [] [] := ⟨rfl, fun i j k l hi _ => by cases hi⟩
theorem snoc_get {α : Type} {xs : List α} {x y : α} {i : Nat} (h : (xs ++ [x])[i]? = some y) : xs[i]? = some y ∨ (i = xs.length ∧ y = x) := by
  rcases Nat.lt_or_ge i xs.length with hlt | hge
  · exact .inl (by rwa [List.getElem?_append_left hlt] at h)
  · rw [List.getElem?_append_right hge] at h
    rcases Nat.eq_zero_or_pos (i - xs.length) with e | e
    · rw [e] at h
      cases h
      exact .inr ⟨by omega, rfl⟩
    · rw [List.getElem?_eq_none (by rw [List.length_singleton]; exact e)] at h
      cases h
theorem snoc_old {α : Type} {xs : List α} {x y : α} {i : Nat} (h : xs[i]? = some y) : (xs ++ [x])[i]? = some y := by
  rw [List.getElem?_append_left (List.getElem?_eq_some_iff.mp h).1]; exact h
theorem snoc_last {α : Type} {xs : List α} {x : α} : (xs ++ [x])[xs.length]? = some x := by
  rw [List.getElem?_append_right (Nat.le_refl _), Nat.sub_self]; rfl
theorem Cols.snoc {led : Led} {n m : Nat} {vs : List Value} {rs : List Nat} {D : Addr} {k : Nat} {x y z : Tok} (C : Cols led n vs rs) (hn : 0 < n) (hm : (D, colO k x y z) ∈ led) (hx : n ≤ x ∧ x < m) (hy : n ≤ y ∧ y < m) (hz : n ≤ z ∧ z < m) : Cols led m (vs ++ [.ref D]) (rs ++ [k]) := by
  have hnm : n ≤ m := Nat.le_trans hx.1 (Nat.le_of_lt hx.2)
  have nz : ∀ {t : Tok}, n ≤ t → t ≠ 0 := fun h e => by subst e; exact absurd hn (Nat.not_lt.mpr h)
  have ap : ∀ {t t' : Tok}, t < n → n ≤ t' → t ≠ t' := fun h h' e => by subst e; exact absurd h (Nat.not_lt.mpr h')
  refine ⟨by rw [List.length_append, List.length_append, C.1]; rfl, fun i j k1 l1 hi hj => ?_⟩
  rcases snoc_get hi with hI | ⟨e1, e2⟩ <;> rcases snoc_get hj with hJ | ⟨e3, e4⟩ <;> clear hi hj <;> (try subst e1) <;> (try subst e2) <;> (try subst e3) <;> (try subst e4)
  · obtain ⟨a, b, t, u, v, t', u', v', e1, e2, m1, m2, ⟨q1, q2, q3⟩, ok⟩ := C.2 i j k1 l1 hI hJ
    exact ⟨a, b, t, u, v, t', u', v', snoc_old e1, snoc_old e2, m1, m2, ⟨Nat.lt_of_lt_of_le q1 hnm, Nat.lt_of_lt_of_le q2 hnm, Nat.lt_of_lt_of_le q3 hnm⟩, ok⟩
  · obtain ⟨a, b, t, u, v, t', u', v', e1, e2, m1, m2, ⟨q1, q2, q3⟩, ok⟩ := C.2 i i k1 k1 hI hI
    exact ⟨a, D, t, u, v, x, y, z, snoc_old e1, by rw [← C.1]; exact snoc_last, m1, hm, ⟨Nat.lt_of_lt_of_le q1 hnm, Nat.lt_of_lt_of_le q2 hnm, Nat.lt_of_lt_of_le q3 hnm⟩, ok.1, ok.2.1, ok.2.2.1, nz hx.1, nz hy.1, nz hz.1, fun _ => ⟨ap q1 hx.1, ap q2 hy.1, ap q3 hz.1⟩⟩
  · obtain ⟨a, b, t, u, v, t', u', v', e1, e2, m1, m2, ⟨q1, q2, q3⟩, ok⟩ := C.2 j j l1 l1 hJ hJ
    exact ⟨D, a, x, y, z, t, u, v, by rw [← C.1]; exact snoc_last, snoc_old e1, hm, m1, ⟨hx.2, hy.2, hz.2⟩, nz hx.1, nz hy.1, nz hz.1, ok.1, ok.2.1, ok.2.2.1, fun _ => ⟨(ap q1 hx.1).symm, (ap q2 hy.1).symm, (ap q3 hz.1).symm⟩⟩
  · exact ⟨D, D, x, y, z, x, y, z, by rw [← C.1]; exact snoc_last, by rw [← C.1]; exact snoc_last, hm, hm, ⟨hx.2, hy.2, hz.2⟩, nz hx.1, nz hy.1, nz hz.1, nz hx.1, nz hy.1, nz hz.1, fun h => absurd rfl h⟩
/-- each value is one of three colours, as its letter tells -/
theorem Cols.of_three {led : Led} {n : Nat} {vs : List Value} {rs : List Nat} {c : Nat → Addr} {t u v : Nat → Tok} (hl : vs.length = rs.length) (h3 : ∀ x ∈ rs, x < 3) (hv : ∀ (i k : Nat), rs[i]? = some k → vs[i]? = some (.ref (c k)))
    (hm : ∀ k, k < 3 → (c k, colO k (t k) (u k) (v k)) ∈ led) (hn : ∀ k, k < 3 → t k < n ∧ u k < n ∧ v k < n) (ok : ∀ k l, k < 3 → l < 3 → TokOk k l (t k) (u k) (v k) (t l) (u l) (v l)) : Cols led n vs rs :=
  ⟨hl, fun i j k l hi hj => by
    have hk := h3 k (List.mem_of_getElem? hi)
    have hl' := h3 l (List.mem_of_getElem? hj)
    exact ⟨c k, c l, _, _, _, _, _, _, hv i k hi, hv j l hj, hm k hk, hm l hl', hn k hk, ok k l hk hl'⟩⟩
section
variable {prog : PySem.Program} {w : World} {A : Around} {E : Value → Shared → Prop} {s : Shared} {h₀ : Heap} {L a b : Addr} {news : Led} {Q : Value → Shared → Prop} {K : Frag}
theorem ne_cols {led led' : Led} {n n' p q : Nat} {vs us : List Value} {rs : List Nat} (X : K.In s.heap) (e : nsIn K cStatics sharingNotToldKey = some none) (N : News h₀ L s.heap news) (ha : (a, W.listOf vs.toArray p) ∈ news) (hb : (b, W.listOf us.toArray q) ∈ news)
    (h1 : Cols led n vs rs) (h2 : Cols led' n' us rs) (h3 : ∀ x ∈ rs, x < 3) (hs1 : ∀ p ∈ led, p ∈ news) (hs2 : ∀ p ∈ led', p ∈ news) (hu : A.units + 64 < cLine) (h : Q (.bool false) s) : wpAny (model prog w) A (compareOp .NotEq (.ref a) (.ref b)) Q E s := by
  have l1 := h1.1
  have l2 := h2.1
  refine (RcNeAt.lists (A := A) (e := fun _ => true) (isList_of N ha) (isList_of N hb) (by simp [l1, l2]) (by omega) (fun i p1 p2 => ?_)) prog w E Q (by rw [show (List.range vs.toArray.size).all (fun _ => true) = true from List.all_eq_true.mpr fun _ _ => rfl]; exact h)
  have p1' : i < rs.length := by rw [List.size_toArray] at p1; omega
  obtain ⟨a1, _, t, u, v, _, _, _, e1, _, m1, _, _, o1⟩ := h1.2 i i _ _ (List.getElem?_eq_getElem p1') (List.getElem?_eq_getElem p1')
  obtain ⟨b1, _, t', u', v', _, _, _, e2, _, m2, _, _, o2⟩ := h2.2 i i _ _ (List.getElem?_eq_getElem p1') (List.getElem?_eq_getElem p1')
  have f1 := (List.getElem?_eq_some_iff.mp e1).2
  have f2 := (List.getElem?_eq_some_iff.mp e2).2
  have hk := h3 _ (List.getElem_mem p1')
  have key : EqAt A.in1 s (.ref a1) (.ref b1) true := by
    by_cases hab : a1 = b1
    · subst hab; exact EqAt.same _
    · have z := col_rc (A := A.in1) X e N (hs1 _ m1) (hs2 _ m2) hk hk ⟨o1.1, o1.2.1, o1.2.2.1, o2.1, o2.2.1, o2.2.2.1, fun h => absurd rfl h⟩ (by show A.units + _ < cLine; omega)
      rw [decide_eq_true rfl] at z
      exact EqAt.of_refs hab z
  simpa [f1, f2] using key
end
section
variable {prog : PySem.Program} {w : World} {A : Around} {h₀ : Heap} {L : Addr} {m : PySem.Str → Option Value} {env : Env} {elt : PySem.Expr} {scope : Scope} {cl : List (PySem.Str × Addr)} {s : Shared} {news : Led}
variable {a b : PySem.Str} {i0 : Led → Prop} {keep : Led} {Fin : Nat → List Value → Led → Prop}
/-- a comprehension that mixes two lists of colours, side by side -/
theorem mrest_cols
    (turn : ∀ (k l : Nat) (p q : Addr) (t u v t' u' v' : Tok) C oC m₂ NN h tk (Q' E' : Value → Shared → Prop), k < 3 → l < 3 → TokOk k l t u v t' u' v' → (p, colO k t u v) ∈ NN → (q, colO l t' u' v') ∈ NN → LCg.NsObj oC m₂ → m₂ a = some (.ref p) → m₂ b = some (.ref q) → Fr h₀ L h m → News h₀ L h ((C, oC) :: NN) →
      (∀ hi D x y z h', tk ≤ hi → (tk ≤ x ∧ x < hi) → (tk ≤ y ∧ y < hi) → (tk ≤ z ∧ z < hi) → (∀ q ∈ (C, oC) :: NN, q.1 < D) → Fr h₀ L h' m → News h₀ L h' ((D, colO (mixK k l) x y z) :: (C, oC) :: NN) → Q' (.ref D) { s with heap := h', toks := hi }) →
      wpAny (model prog w) A (eval elt (compEnvC scope cl C env)) Q' E' { s with heap := h, toks := tk })
    (hkeep : ∀ p ∈ keep, p ∈ news) :
    ∀ (v1 v2 : List Value) (q1 q2 : List Nat) (ys : List Value) (ks : List Nat) (cs : Led) (n : Nat), 0 < n → v1.length = q1.length → v2.length = q2.length → (∀ x ∈ q1, x < 3) → (∀ x ∈ q2, x < 3) →
      (∀ (i k l : Nat), q1[i]? = some k → q2[i]? = some l → ∃ (p q : Addr) (t u v t' u' v' : Tok), v1[i]? = some (.ref p) ∧ v2[i]? = some (.ref q) ∧ (p, colO k t u v) ∈ news ∧ (q, colO l t' u' v') ∈ news ∧ TokOk k l t u v t' u' v') →
      Cols cs n ys ks → (∀ p ∈ cs, ∀ z ∈ news, z.1 < p.1) →
      (∀ (n' : Nat) (zs : List Value) (cs' : Led), n ≤ n' → Cols cs' n' zs (ks ++ List.zipWith mixK q1 q2) → (∀ p ∈ cs', ∀ z ∈ news, z.1 < p.1) → Fin n' zs (cs' ++ news)) →
      MRest prog w A h₀ L m env none elt a b scope cl s i0 keep Fin ((fixed v1).zip (fixed v2)) n ys (cs ++ news) := by
  have stop : ∀ (ys : List Value) (ks : List Nat) (cs : Led) (n : Nat), Cols cs n ys ks → (∀ p ∈ cs, ∀ z ∈ news, z.1 < p.1) → (∀ (n' : Nat) (zs : List Value) (cs' : Led), n ≤ n' → Cols cs' n' zs (ks ++ []) → (∀ p ∈ cs', ∀ z ∈ news, z.1 < p.1) → Fin n' zs (cs' ++ news)) → MRest prog w A h₀ L m env none elt a b scope cl s i0 keep Fin [] n ys (cs ++ news) :=
    fun ys ks cs n hc hf fin => MRest.nil (fin n ys cs (Nat.le_refl _) (by rw [List.append_nil]; exact hc) hf)
  intro v1
  induction v1 with
  | nil =>
    intro v2 q1 q2 ys ks cs n h0 l1 l2 b1 b2 H hc hf fin
    cases q1 with
    | cons => cases l1
    | nil => exact stop ys ks cs n hc hf fin
  | cons x1 r1 ih =>
    intro v2 q1 q2 ys ks cs n h0 l1 l2 b1 b2 H hc hf fin
    cases q1 with
    | nil => cases l1
    | cons k q1 =>
      cases v2 with
      | nil =>
        cases q2 with
        | cons => cases l2
        | nil => exact stop ys ks cs n hc hf fin
      | cons x2 r2 =>
        cases q2 with
        | nil => cases l2
        | cons l q2 =>
          obtain ⟨p, q, t, u, v, t', u', v', e1, e2, m1, m2, ok⟩ := H 0 k l rfl rfl
          cases e1
          cases e2
          refine MRest.cons ?_
          intro T U its C oC D m₂ h tk E' hk hi hC ha hb F N off offI offC ne
          refine turn k l p q t u v t' u' v' C oC m₂ ((D, LCg.lst ys) :: ((cs ++ news) ++ its)) h tk _ E' (b1 _ (.head _)) (b2 _ (.head _)) ok (.tail _ (List.mem_append_left _ (List.mem_append_right _ m1))) (.tail _ (List.mem_append_left _ (List.mem_append_right _ m2))) hC ha hb F N ?_
          intro hi9 D9 x y z h9 g0 gx gy gz hlt F9 N9
          refine MEnd.intro F9 N9 ((D9, colO (mixK k l) x y z) :: (cs ++ news)) ?_ ?_ ?_ (fun p hp => .tail _ (List.mem_append_right _ (hkeep p hp))) ?_
          · exact FMC.all ⟨.tail _ (.head _), FMC.all ⟨.tail _ (.tail _ (.head _)), FMC.all ⟨.head _, fun p hp => .tail _ (.tail _ (.tail _ hp))⟩⟩⟩
          · exact FMC.all ⟨⟨Nat.ne_of_gt (hlt _ (.head _)), Nat.ne_of_gt (hlt _ (.tail _ (.head _)))⟩, off⟩
          · exact FMC.all ⟨fun z hz => Nat.ne_of_gt (hlt _ (.tail _ (.tail _ (List.mem_append_right _ hz)))), offI⟩
          · refine ih r2 q1 q2 _ (ks ++ [mixK k l]) ((D9, colO (mixK k l) x y z) :: cs) hi9 (Nat.lt_of_lt_of_le h0 (Nat.le_trans hk g0)) (Nat.succ.inj l1) (Nat.succ.inj l2) (fun y hy => b1 y (.tail _ hy)) (fun y hy => b2 y (.tail _ hy)) (fun i k l hi hj => H (i + 1) k l hi hj) ?_ ?_ ?_
            · exact Cols.snoc (Cols.mono (fun p hp => .tail _ hp) (Nat.le_refl _) hc) h0 (.head _) ⟨Nat.le_trans hk gx.1, gx.2⟩ ⟨Nat.le_trans hk gy.1, gy.2⟩ ⟨Nat.le_trans hk gz.1, gz.2⟩
            · exact FMC.all ⟨fun z hz => hlt z (.tail _ (.tail _ (List.mem_append_left _ (List.mem_append_right _ hz)))), hf⟩
            · intro n' zs cs' hn' hz hf'
              refine fin n' zs cs' (Nat.le_trans hk (Nat.le_trans g0 hn')) ?_ hf'
              rw [List.append_assoc] at hz
              exact hz
end
end Mine
namespace Mine
/-- the three corners' addresses -/
noncomputable def cA (c0 c1 c2 : Addr) : Nat → Addr
  | 0 => c0
  | 1 => c1
  | _ => c2
theorem cA_get {c0 c1 c2 : Addr} {k : Nat} (h : k < 3) : [Value.ref c0, .ref c1, .ref c2][((k : Nat) : Int).toNat]? = some (.ref (cA c0 c1 c2 k)) := by
  rcases lt3 h with rfl | rfl | rfl <;> rfl
theorem ints_get {v : Value} : ∀ {vs : List Value} {r : List Nat} {i : Nat}, IntsAre vs (castL r) → vs[i]? = some v → ∃ (k : Nat) (t : Tok), r[i]? = some k ∧ v = .int ((k : Nat) : Int) t
  | [], _, _, _, h => by cases h
  | _ :: _, [], _, hI, _ => by cases hI
  | _ :: vs, k :: r, 0, hI, h => by
    cases h
    cases hI with
    | cons _ t _ => exact ⟨k, t, rfl, rfl⟩
  | _ :: vs, k :: r, i + 1, hI, h => by
    cases hI with
    | cons _ t hr => exact ints_get (vs := vs) (r := r) (i := i) hr h
theorem ints_len {vs : List Value} {r : List Nat} (h : IntsAre vs (castL r)) : vs.length = r.length := by rw [h.length, List.length_map]
noncomputable abbrev CL (T : Tok) (c0 c1 c2 : Addr) : Led := [(c2, colO 2 (T + 1 + 1 + 1 + 1 + 1 + 1) (T + 1 + 1 + 1 + 1 + 1 + 1 + 1) (T + 1 + 1 + 1 + 1 + 1 + 1 + 1 + 1)), (c1, colO 1 (T + 1 + 1 + 1) (T + 1 + 1 + 1 + 1) (T + 1 + 1 + 1 + 1 + 1)), (c0, colO 0 T (T + 1) (T + 1 + 1))]
theorem cols_three {T n : Nat} {c0 c1 c2 : Addr} {vs : List Value} {rs : List Nat} (hT : 0 < T) (hn : T + 1 + 1 + 1 + 1 + 1 + 1 + 1 + 1 + 1 ≤ n) (hl : vs.length = rs.length) (h3 : ∀ x ∈ rs, x < 3)
    (hv : ∀ (i : Nat) (y : Value), vs[i]? = some y → ∃ k, rs[i]? = some k ∧ y = .ref (cA c0 c1 c2 k)) : Cols (CL T c0 c1 c2) n vs rs := by
  refine Cols.of_three (c := cA c0 c1 c2) (t := fun k => T + 3 * k) (u := fun k => T + 3 * k + 1) (v := fun k => T + 3 * k + 2) hl h3 (fun i k hk => ?_) (fun k hk => ?_) (fun k hk => ?_) fun k l hk hl' => ?_
  · have hlt : i < vs.length := by rw [hl]; exact (List.getElem?_eq_some_iff.mp hk).1
    obtain ⟨k', e1, e2⟩ := hv i _ (List.getElem?_eq_getElem hlt)
    have e3 : k' = k := Option.some.inj (e1.symm.trans hk)
    rw [List.getElem?_eq_getElem hlt, e2, e3]
  · rcases lt3 hk with rfl | rfl | rfl
    · exact .tail _ (.tail _ (.head _))
    · exact .tail _ (.head _)
    · exact .head _
  · show T + 3 * k < n ∧ T + 3 * k + 1 < n ∧ T + 3 * k + 2 < n
    omega
  · unfold TokOk
    have nz : ∀ j, (T + j : Nat) ≠ 0 := fun j => by omega
    refine ⟨nz _, by rw [Nat.add_assoc]; exact nz _, by rw [Nat.add_assoc]; exact nz _, nz _, by rw [Nat.add_assoc]; exact nz _, by rw [Nat.add_assoc]; exact nz _, fun h => ?_⟩
    have h' : T + 3 * k ≠ T + 3 * l := fun e => h (by omega)
    exact ⟨h', fun e => h' (Nat.succ.inj e), fun e => h' (Nat.succ.inj (Nat.succ.inj e))⟩
end Mine
namespace Mine
section
variable {prog : PySem.Program} {w : World} {A : Around} {E : Value → Shared → Prop} {s : Shared} {env : Env} {h₀ : Heap} {x : PySem.Str} {body : List Stmt} {Q : Flow → Shared → Prop}
theorem GRestInd {I : Addr} {lp : Addr × Obj} (P : List Value → Nat → (PySem.Str → Option Value) → Led → Prop)
    (turn : ∀ v r n m nw, P (v :: r) n m nw → ∀ (it : Obj) h tk (Q' : Flow → Shared → Prop), n ≤ tk → (∀ {h' tk' m' all}, Fr h₀ env.locals h' m' → News h₀ env.locals h' all → ∀ nw', (∀ p ∈ (I, it) :: nw', p ∈ all) → (∀ p ∈ nw', p.1 ≠ I) → lp ∈ nw' → P r tk' m' nw' → Q' .next { s with heap := h', toks := tk' }) → Fr h₀ env.locals h (fun y => if y = x then some v else m y) → News h₀ env.locals h ((I, it) :: nw) →
      wpAny (model prog w) A (execs body env) Q' E { s with heap := h, toks := tk })
    (done : ∀ n m nw, P [] n m nw → ∀ h tk, n ≤ tk → Fr h₀ env.locals h m → News h₀ env.locals h nw → Q .next { s with heap := h, toks := tk }) :
    ∀ vs n m nw, P vs n m nw → GRest prog w A h₀ env x body s Q E I lp vs n m nw
  | [], n, m, nw, hP => fun h tk hn F N => done n m nw hP h tk hn F N
  | v :: r, n, m, nw, hP => fun it h tk Q' hn F N _ _ k => turn v r n m nw hP it h tk Q' hn (fun F' N' nw' sub off hl hP' => k _ _ _ _ nw' F' N' sub off hl (GRestInd P turn done r _ _ _ hP')) F N
end
theorem mx5 {m : PySem.Str → Option Value} {a b c d e : PySem.Str} {va vb vc vd ve : Value} (ha : m a = some va) (hb : m b = some vb) (hc : m c = some vc) (hd : m d = some vd) (he : m e = some ve) : m = fun y => if y = a then some va else if y = b then some vb else if y = c then some vc else if y = d then some vd else if y = e then some ve else m y := by
  funext y; (repeat' split) <;> simp_all
/-- the leaps done so far: the colours are those of the row so far down -/
noncomputable def LmP (I : Addr) (B X : Led) (Dr D5 : Addr) (i : Nat) (r : List Nat) (vs : List Value) (n : Nat) (m : PySem.Str → Option Value) (nw : Led) : Prop :=
  ∀ C : Led → Prop, (∀ (ls : List Int) (d : Nat) (Dc : Addr) (us : List Value) (kc : Nat) (cs : Led) (tc td : Tok), IntsAre vs ls → (∀ l ∈ ls, l = 1 ∨ l = 3 ∨ l = 9) → (d : Int) + ls.sum = (i : Int) → Cols cs n us (itR d r) → 0 < n → (∀ p ∈ cs, p.1 ≠ I) → (@Ne Nat Dc I) →
    m (PySem.Str.ofString "rows") = some (.ref Dr) → m (PySem.Str.ofString "row") = some (.ref D5) → m (PySem.Str.ofString "count") = some (.int (i : Int) tc) → m (PySem.Str.ofString "colours") = some (.ref Dc) → m (PySem.Str.ofString "down") = some (.int (d : Int) td) →
    C ((Dc, W.listOf us.toArray kc) :: (B ++ (cs ++ X)))) → C nw
theorem leap_nat {v : Value} {vs : List Value} {ls : List Int} {d i : Nat} (h : IntsAre (v :: vs) ls) (h1 : ∀ l ∈ ls, l = 1 ∨ l = 3 ∨ l = 9) (hs : (d : Int) + ls.sum = (i : Int)) :
    ∃ (e : Nat) (t : Tok) (ls' : List Int), v = .int ((e : Nat) : Int) t ∧ (e = 1 ∨ e = 3 ∨ e = 9) ∧ IntsAre vs ls' ∧ (∀ l ∈ ls', l = 1 ∨ l = 3 ∨ l = 9) ∧ ((d + e : Nat) : Int) + ls'.sum = (i : Int) ∧ d + e ≤ i := by
  have nn : ∀ {l : List Int}, (∀ x ∈ l, x = 1 ∨ x = 3 ∨ x = 9) → 0 ≤ l.sum := by
    intro l
    induction l with
    | nil => exact fun _ => Int.le_refl _
    | cons a l ih =>
      intro hl
      have h1 := hl a (.head _)
      have h2 := ih fun x hx => hl x (.tail _ hx)
      rw [List.sum_cons]; omega
  cases h with
  | cons l t h =>
    rename_i ls'
    have hl := h1 l (.head _)
    have h2 := nn fun x hx => h1 x (.tail _ hx)
    rw [List.sum_cons] at hs
    have key : ∀ e : Nat, l = (e : Int) → ((d + e : Nat) : Int) + ls'.sum = (i : Int) ∧ d + e ≤ i := fun e he => by
      subst he
      rw [Int.natCast_add]
      omega
    rcases hl with rfl | rfl | rfl
    · exact ⟨1, t, ls', rfl, .inl rfl, h, fun x hx => h1 x (.tail _ hx), key 1 rfl⟩
    · exact ⟨3, t, ls', rfl, .inr (.inl rfl), h, fun x hx => h1 x (.tail _ hx), key 3 rfl⟩
    · exact ⟨9, t, ls', rfl, .inr (.inr rfl), h, fun x hx => h1 x (.tail _ hx), key 9 rfl⟩
theorem leap_done {ls : List Int} {d i : Nat} (h : IntsAre ([] : List Value) ls) (hs : (d : Int) + ls.sum = (i : Int)) : d = i := by
  cases h
  rw [List.sum_nil] at hs
  omega
theorem leap_row {d e : Nat} (he : e = 1 ∨ e = 3 ∨ e = 9) {r : List Nat} (h : ∀ x ∈ r, x < 3) : List.zipWith mixK (itR d r) ((itR d r).drop e) = itR (d + e) r := by
  rw [itR_add]; exact leap_it he _ (itR_lt d h)
/-- a colour and the one so far on -/
theorem Cols.pair {led : Led} {n e : Nat} {vs : List Value} {rs : List Nat} (C : Cols led n vs rs) {i k l : Nat} (hi : rs[i]? = some k) (hj : (rs.drop e)[i]? = some l) :
    ∃ (p q : Addr) (t u v t' u' v' : Tok), vs[i]? = some (.ref p) ∧ (vs.drop e)[i]? = some (.ref q) ∧ (p, colO k t u v) ∈ led ∧ (q, colO l t' u' v') ∈ led ∧ TokOk k l t u v t' u' v' := by
  rw [List.getElem?_drop] at hj
  obtain ⟨a, b, t, u, v, t', u', v', e1, e2, m1, m2, _, ok⟩ := C.2 i (e + i) k l hi hj
  exact ⟨a, b, t, u, v, t', u', v', e1, by rw [List.getElem?_drop]; exact e2, m1, m2, ok⟩
end Mine
namespace Mine
theorem clSub {a b c d e f g : Addr × Obj} {k ext rws : Led} : ∀ p ∈ k ++ (k ++ (ext ++ rws)), p ∈ a :: b :: c :: (ext ++ d :: e :: f :: g :: (k ++ rws)) := fun p hp =>
  .tail _ (.tail _ (.tail _ ((List.mem_append.mp hp).elim (fun h => List.mem_append_right _ (.tail _ (.tail _ (.tail _ (.tail _ (List.mem_append_left _ h)))))) fun h => (List.mem_append.mp h).elim (fun h => List.mem_append_right _ (.tail _ (.tail _ (.tail _ (.tail _ (List.mem_append_left _ h)))))) fun h => (List.mem_append.mp h).elim (fun h => List.mem_append_left _ h) fun h => List.mem_append_right _ (.tail _ (.tail _ (.tail _ (.tail _ (List.mem_append_right _ h))))))))
end Mine
namespace Mine
theorem pick_from (us : List Value) (e : Nat) : slicePick us.toArray (some ((e : Nat) : Int)) none none = (us.drop e).toArray := by
  rw [kms_pick_eq]
  show (((us.drop (if ((e : Nat) : Int) < 0 then us.length - (-((e : Nat) : Int)).toNat else min ((e : Nat) : Int).toNat us.length)).take (us.length - (if ((e : Nat) : Int) < 0 then us.length - (-((e : Nat) : Int)).toNat else min ((e : Nat) : Int).toNat us.length)))).toArray = _
  rw [if_neg (by omega), Int.toNat_natCast, kmk_drop_min, List.take_of_length_le (by rw [List.length_drop]; omega)]
end Mine
namespace Mine
theorem inCs {p a b c d e f g h i : Addr × Obj} {cs X : Led} (hp : p ∈ cs) : p ∈ a :: b :: c :: d :: e :: f :: g :: h :: i :: (cs ++ X) :=
  .tail _ (.tail _ (.tail _ (.tail _ (.tail _ (.tail _ (.tail _ (.tail _ (.tail _ (List.mem_append_left _ hp)))))))))
end Mine
namespace Mine
theorem csSub {D S I d a b c e f g : Addr × Obj} {cs cs' X : Led} : ∀ p ∈ I :: D :: a :: b :: c :: e :: f :: g :: (cs' ++ X), p ∈ D :: (cs' ++ S :: I :: d :: a :: b :: c :: e :: f :: g :: (cs ++ X)) :=
  FMC.all ⟨.tail _ (List.mem_append_right _ (.tail _ (.head _))), FMC.all ⟨.head _, fun p hp => .tail _ (by
    rcases List.mem_cons.mp hp with rfl | hp; · exact List.mem_append_right _ (.tail _ (.tail _ (.tail _ (.head _))))
    rcases List.mem_cons.mp hp with rfl | hp; · exact List.mem_append_right _ (.tail _ (.tail _ (.tail _ (.tail _ (.head _)))))
    rcases List.mem_cons.mp hp with rfl | hp; · exact List.mem_append_right _ (.tail _ (.tail _ (.tail _ (.tail _ (.tail _ (.head _))))))
    rcases List.mem_cons.mp hp with rfl | hp; · exact List.mem_append_right _ (.tail _ (.tail _ (.tail _ (.tail _ (.tail _ (.tail _ (.head _)))))))
    rcases List.mem_cons.mp hp with rfl | hp; · exact List.mem_append_right _ (.tail _ (.tail _ (.tail _ (.tail _ (.tail _ (.tail _ (.tail _ (.head _))))))))
    rcases List.mem_cons.mp hp with rfl | hp; · exact List.mem_append_right _ (.tail _ (.tail _ (.tail _ (.tail _ (.tail _ (.tail _ (.tail _ (.tail _ (.head _)))))))))
    exact (List.mem_append.mp hp).elim (fun h => List.mem_append_left _ h) fun h => List.mem_append_right _ (.tail _ (.tail _ (.tail _ (.tail _ (.tail _ (.tail _ (.tail _ (.tail _ (.tail _ (List.mem_append_right _ h))))))))))) ⟩⟩
end Mine
namespace Mine
theorem csIn {p a b c d e f g h i : Addr × Obj} {X : Led} (hp : p ∈ X) : p ∈ a :: b :: c :: d :: e :: f :: g :: h :: i :: X :=
  .tail _ (.tail _ (.tail _ (.tail _ (.tail _ (.tail _ (.tail _ (.tail _ (.tail _ hp))))))))
end Mine
namespace Mine
theorem endSub {a b c d e f g : Addr × Obj} {cs k X : Led} : ∀ p ∈ b :: c :: e :: X, p ∈ g :: ([a, b, c, d, e, f] ++ (cs ++ (k ++ X))) := fun p hp => by
  rcases List.mem_cons.mp hp with rfl | hp; · exact .tail _ (.tail _ (.head _))
  rcases List.mem_cons.mp hp with rfl | hp; · exact .tail _ (.tail _ (.tail _ (.head _)))
  rcases List.mem_cons.mp hp with rfl | hp; · exact .tail _ (.tail _ (.tail _ (.tail _ (.tail _ (.head _)))))
  exact .tail _ (List.mem_append_right _ (List.mem_append_right _ (List.mem_append_right _ hp)))
end Mine
namespace Mine
section
variable {prog : PySem.Program} {w : World} {A : Around} {h₀ : Heap} {L : Addr} {m : PySem.Str → Option Value} {env : Env} {elt : PySem.Expr} {scope : Scope} {cl : List (PySem.Str × Addr)} {s : Shared} {news : Led}
variable {a b : PySem.Str} {i0 : Led → Prop} {keep : Led} {Fin : Nat → List Value → Led → Prop}
/-- a comprehension over two lists of numbers, those of the first known to be small -/
theorem mrest_intsP (P : Int → Prop) (f : Int → Int → Int)
    (turn : ∀ x y t u its C oC D m₂ ys h tk (E' : Value → Shared → Prop), P x → i0 its → LCg.NsObj oC m₂ → m₂ a = some (.int x t) → m₂ b = some (.int y u) → Fr h₀ L h m → News h₀ L h ((C, oC) :: (D, LCg.lst ys) :: (news ++ its)) →
      (∀ q ∈ news, q.1 ≠ C ∧ q.1 ≠ D) → (∀ q ∈ news, ∀ z ∈ its, q.1 ≠ z.1) → (∀ q ∈ its, q.1 ≠ C ∧ q.1 ≠ D) → (@Ne Nat C D) →
      wpAny (model prog w) A (eval elt (compEnvC scope cl C env)) (MEnd h₀ L m { s with heap := h, toks := tk } C oC D (LCg.lst ys) its keep (fun _ z news' => news' = news ∧ ∃ t, z = .int (f x y) t)) E' { s with heap := h, toks := tk }) :
    ∀ (v1 v2 : List Value) (l1 l2 : List Int) (ys : List Value) (ns : List Int) (n : Nat), (∀ x ∈ l1, P x) → IntsAre v1 l1 → IntsAre v2 l2 → IntsAre ys ns →
      (∀ (n' : Nat) (zs : List Value), IntsAre zs (ns ++ List.zipWith f l1 l2) → Fin n' zs news) →
      MRest prog w A h₀ L m env none elt a b scope cl s i0 keep Fin ((fixed v1).zip (fixed v2)) n ys news := by
  have stop : ∀ (ys : List Value) (ns : List Int) (n : Nat), IntsAre ys ns → (∀ (n' : Nat) (zs : List Value), IntsAre zs (ns ++ []) → Fin n' zs news) → MRest prog w A h₀ L m env none elt a b scope cl s i0 keep Fin [] n ys news :=
    fun ys ns n hy fin => MRest.nil (fin n ys (by rw [List.append_nil]; exact hy))
  intro v1
  induction v1 with
  | nil =>
    intro v2 l1 l2 ys ns n hP h1 h2 hy fin
    cases h1
    exact stop ys ns n hy fin
  | cons p r ih =>
    intro v2 l1 l2 ys ns n hP h1 h2 hy fin
    cases h1 with
    | cons x t h1 =>
      cases h2 with
      | nil => exact stop ys ns n hy fin
      | cons y u h2 =>
        refine MRest.cons ?_
        intro t' u' its C oC D m₂ h tk E' hk hi hC ha hb F N off offI offC ne
        refine wpAny_mono (turn x y t u its C oC D m₂ ys h tk E' (hP _ (.head _)) hi hC ha hb F N off offI offC ne) (fun z s₂ hq => ?_) fun _ _ e => e
        intro G k
        refine hq G ?_
        intro h' tk' news' e F' N' o1 o2 hkp hr
        obtain ⟨rfl, t9, rfl⟩ := hr
        refine k h' tk' _ e F' N' o1 o2 hkp ?_
        refine ih _ _ _ _ (ns ++ [f x y]) tk' (fun x hx => hP x (.tail _ hx)) h1 h2 (ints_push hy _ _) ?_
        intro n' zs hz
        refine fin n' zs ?_
        rw [List.append_assoc] at hz
        exact hz
end
theorem pow_cast (d : Nat) : (257 : Int) ^ ((d : Nat) : Int).toNat = ((257 ^ d : Nat) : Int) := by rw [Int.toNat_natCast]; exact (Int.natCast_pow 257 d).symm
theorem pow_bits : ∀ d, d < 10 → ((Builtin.Int.intBits ((257 ^ d : Nat) : Int) : Int) + (8 : Nat) - 1).fdiv (8 : Nat) = ((d + 1 : Nat) : Int) := by decide +kernel
theorem pow_80 {d : Nat} (h : d < 10) : 257 ^ d < 2 ^ 80 := Nat.lt_of_le_of_lt (Nat.pow_le_pow_right (by decide) (Nat.le_of_lt_succ h)) (by decide)
theorem chs_small : ∀ d, d < 10 → ∀ x ∈ chs d, x.natAbs < 2 ^ 64 := by decide +kernel
theorem zip_dot : ∀ p q : List Int, (List.zipWith (fun x y => x * y) p q).sum = dotI p q
  | [], _ => by cases ‹List Int› <;> rfl
  | _ :: _, [] => rfl
  | a :: p, b :: q => by
    show (a * b :: List.zipWith (fun x y => x * y) p q).sum = a * b + dotI p q
    rw [List.sum_cons, zip_dot p q]
end Mine
namespace Mine
theorem dgSub {a b c d : Addr × Obj} {e' e X : Led} : ∀ p ∈ a :: b :: c :: d :: ((e' ++ e) ++ X), p ∈ a :: b :: (e' ++ c :: d :: (e ++ X)) := fun p hp => by
  rcases List.mem_cons.mp hp with rfl | hp; · exact .head _
  rcases List.mem_cons.mp hp with rfl | hp; · exact .tail _ (.head _)
  rcases List.mem_cons.mp hp with rfl | hp; · exact .tail _ (.tail _ (List.mem_append_right _ (.head _)))
  rcases List.mem_cons.mp hp with rfl | hp; · exact .tail _ (.tail _ (List.mem_append_right _ (.tail _ (.head _))))
  exact .tail _ (.tail _ ((List.mem_append.mp hp).elim (fun h => (List.mem_append.mp h).elim (List.mem_append_left _) (fun h => List.mem_append_right _ (.tail _ (.tail _ (List.mem_append_left _ h))))) (fun h => List.mem_append_right _ (.tail _ (.tail _ (List.mem_append_right _ h))))))
end Mine
namespace Mine
theorem my_sum {prog : PySem.Program} {w : World} {A : Around} {E : Value → Shared → Prop} {s : Shared} {h₀ : Heap} {L a : Addr} {m : PySem.Str → Option Value} {news : Led} {Q : Value → Shared → Prop} {vs : List Value} {ns : List Int} {n : Nat} (hh : A.handled = none) (F : Fr h₀ L s.heap m) (N : News h₀ L s.heap news) (hm : (a, W.listOf vs.toArray n) ∈ news) (hi : IntsAre vs ns)
    (h : ∀ h' tk t, Fr h₀ L h' m → News h₀ L h' news → Q (.int ns.sum t) { s with heap := h', toks := tk }) : wpAny (model prog w) A (call (.builtin "sum") [.ref a]) Q E s := by
  obtain ⟨xs, e⟩ := hi.allInts.items
  have hl := isList_of N hm
  have hn : ns = numsOf vs := hi.numsOf.symm
  rw [e] at hl
  refine sum_intListG hh hl fun h' tk t' hk => ?_
  have z := h h' tk t' (F.grownK hk) (N.grown hk)
  have e2 : ns.sum = preSum (numAt xs) xs.size := by
    rw [hn, show vs = vs.toArray.toList from rfl, e, nums_intItems, preSum_eq, List.take_of_length_le (by simp)]
  rw [← e2]; exact z
end Mine
namespace Mine
theorem my_sumS {prog : PySem.Program} {w : World} {A : Around} {E : Value → Shared → Prop} {s : Shared} {h₀ : Heap} {L a : Addr} {m : PySem.Str → Option Value} {news : Led} {Q : Value → Shared → Prop} {vs : List Value} {ns : List Int} {n : Nat} {S : Int} (hh : A.handled = none) (F : Fr h₀ L s.heap m) (N : News h₀ L s.heap news) (hm : (a, W.listOf vs.toArray n) ∈ news) (hi : IntsAre vs ns) (hS : ns.sum = S)
    (h : ∀ h' tk t, Fr h₀ L h' m → News h₀ L h' news → Q (.int S t) { s with heap := h', toks := tk }) : wpAny (model prog w) A (call (.builtin "sum") [.ref a]) Q E s :=
  my_sum hh F N hm hi (hS ▸ h)
theorem dot_le (M : Nat) : ∀ (p : List Int) (r : List Nat), (∀ x ∈ p, x.natAbs ≤ M) → (∀ x ∈ r, x < 3) → (dotI p (castL r)).natAbs ≤ p.length * (2 * M)
  | [], _, _, _ => by
    have e : ∀ q : List Int, dotI [] q = 0 := fun q => by cases q <;> rfl
    rw [e]; exact Nat.zero_le _
  | _ :: _, [], _, _ => Nat.zero_le _
  | a :: p, b :: r, hp, hr => by
    have ih := dot_le M p r (fun x hx => hp x (.tail _ hx)) (fun x hx => hr x (.tail _ hx))
    have ha := hp a (.head _)
    have hb := hr b (.head _)
    show (a * (b : Int) + dotI p (castL r)).natAbs ≤ (p.length + 1) * (2 * M)
    have h1 : (a * (b : Int)).natAbs ≤ 2 * M := by
      rw [Int.natAbs_mul, Int.natAbs_natCast, Nat.mul_comm]
      exact Nat.mul_le_mul (Nat.le_of_lt_succ hb) ha
    have h2 := Int.natAbs_add_le (a * (b : Int)) (dotI p (castL r))
    rw [Nat.add_mul, Nat.one_mul]
    omega
theorem chs_126 : ∀ d, d < 10 → ∀ x ∈ chs d, x.natAbs ≤ 126 := by decide +kernel
/-- the sum with its sign -/
noncomputable def sgn (d : Nat) (S : Int) : Int := if d % 2 = 1 then -S else S
theorem sgn_small {d : Nat} {r : List Nat} (hd : d < 10) (h3 : ∀ x ∈ r, x < 3) : (sgn d (dotI (chs d) (castL r))).natAbs < 2 ^ 59 := by
  have h := dot_le 126 (chs d) r (chs_126 d hd) h3
  rw [chs_length] at h
  have h2 : (sgn d (dotI (chs d) (castL r))).natAbs = (dotI (chs d) (castL r)).natAbs := by
    unfold sgn; split
    · exact Int.natAbs_neg _
    · rfl
  rw [h2]
  omega
theorem sgn_head {d : Nat} {r : List Nat} (h3 : ∀ x ∈ r, x < 3) (hd : d < r.length) : ∃ (h : Nat) (t : List Nat), itR d r = h :: t ∧ (sgn d (dotI (chs d) (castL r))).fmod 3 = (h : Int) := by
  obtain ⟨h, t, e, hv⟩ := head_sum d r h3 hd
  have hh : h < 3 := itR_lt d h3 h (by rw [e]; exact .head _)
  refine ⟨h, t, e, ?_⟩
  have e2 : sgn d (dotI (chs d) (castL r)) = (if d % 2 = 1 then -1 else 1) * dotI (chs d) (castL r) := by
    unfold sgn; split
    · rw [Int.neg_mul, Int.one_mul]
    · rw [Int.one_mul]
  rw [← e2] at hv
  rw [Int.fmod_eq_emod_of_nonneg _ (by decide)]
  omega
theorem par_fmod {d : Nat} : ((d : Nat) : Int).fmod 2 = ((d % 2 : Nat) : Int) := by
  rw [Int.fmod_eq_emod_of_nonneg _ (by decide)]; rfl
theorem ints_head {ws : List Value} {h : Nat} {t : List Nat} {q : List Nat} (hi : IntsAre ws (castL q)) (e : q = h :: t) : ∃ th, ws[(0 : Int).toNat]? = some (.int ((h : Nat) : Int) th) := by
  subst e
  cases hi with
  | cons _ th _ => exact ⟨th, rfl⟩
end Mine
namespace Mine
theorem le_1000 {a b : Nat} (h : a ≤ b) (h2 : b ≤ 10) : a ≤ 1000 := Nat.le_trans h (Nat.le_trans h2 (by decide))
theorem lt_200 {d : Nat} (h : d < 10) : d + 1 < 200 := Nat.lt_of_le_of_lt h (by decide)
theorem leap_9 {e : Nat} (h : e = 1 ∨ e = 3 ∨ e = 9) : e ≤ 9 := by rcases h with rfl | rfl | rfl <;> decide
theorem de_nn (d e : Nat) : (0 : Int) ≤ (d : Int) + (e : Int) := Int.natCast_nonneg (d + e)
theorem de_63 {d e i : Nat} (h : d + e ≤ i) (hi : i < 10) : (d : Int) + (e : Int) < 2 ^ 63 := by omega
theorem k_63 {k : Nat} (h : k < 3) : (k : Int) < 2 ^ 63 := by omega
end Mine
end
section
open PySem PySem.W PyProof.Rows
namespace Mine
set_option maxRecDepth 100000 in
set_option maxHeartbeats 8000000 in
open_top hd for PySem.Challenge.rw_pg0168_03
end Mine
end
theorem Mine.topOff : True := by
  w_top off
  exact True.intro
section
open PySem PySem.W PyProof.Rows PySem.Calls PySem.Spec
set_option compiler.extract_closed false
namespace Mine
local macro_rules | `(tactic| k_room) => `(tactic| ktr_room)
local macro_rules | `(tactic| k_units) => `(tactic| ktr_units)
local macro_rules | `(tactic| k_lt $h:ident) => `(tactic| (replace $h := allLt_of $h; (try simp only [AllLt, and_true] at $h:ident); (repeat (have h9 := And.left $h; replace $h := And.right $h))))
local macro_rules | `(tactic| k_all) => `(tactic| ((fail_if_success refine List.forall_mem_cons.mpr ?_); (fail_if_success exact List.forall_mem_nil _); first | with_reducible assumption | repeat' ((with_reducible rename AllLt _ _ => z1); first | exact all_ne z1 (by omega) | clear z1)))
local macro_rules | `(tactic| k_mem) => `(tactic| assumption)
local macro_rules | `(tactic| walk_at "MINE mcons") => `(tactic| ((refine MRest.cons ?_); intro t9' u9' its9' C9' oC9' D9' m9' h9' tk9' E9' tg9' i09' hC9' hxa9' hxb9' F9' N9' off9' offI9' offC9' neCD9'; (try dsimp only at hxa9' hxb9')))
local macro_rules | `(tactic| walk_at "MINE ltI") => `(tactic| (intro l1; k_lt l1))
set_option compiler.extract_closed false
noncomputable abbrev P03 : PySem.Program := Challenge.rw_pg0168_03.row.prog
noncomputable abbrev K03 : World → Frag := fun w => hd.heap_39 w.params
noncomputable abbrev H03 : Heap → Prop := fun h => CodeHd h 48 44 ∧ CodeHd h 55 51
noncomputable abbrev nm30 : PySem.Str := PySem.Str.ofString "_int2digits.<locals>.inner"
noncomputable abbrev Tab30 : Obj → Led → Prop := TabIs 73 4 nm30
noncomputable abbrev nm37 : PySem.Str := PySem.Str.ofString "_digits2int.<locals>.inner"
noncomputable abbrev Tab37 : Obj → Led → Prop := TabIs 88 4 nm37
set_option maxRecDepth 100000 in
set_option maxHeartbeats 4000000 in
theorem i2d {w : World} {news T0 : Led} (x n k : Nat) (hn : 0 < n) (hk : ((Builtin.Int.intBits x : Int) + n - 1).fdiv n = (k : Int)) (hk9 : k < 200) (hx : x < 2 ^ 80) (hn9 : n < 100) (t1 t2 : Tok) (h30 : ∀ p ∈ news, p.1 ≠ 44) (o30 : Obj) (hT : Tab30 o30 T0) (hs0 : ∀ p ∈ T0, p ∈ news) :
   CS K03 P03 w H03 49 300 3000 ((44, o30) :: news) [.int x t1, .int n t2]
    fun v nw => ∃ D vs o30' ext, v = .ref D ∧ nw = (D, W.listOf vs.toArray 0) :: (44, o30') :: (ext ++ news) ∧ Tab30 o30' (ext ++ T0) ∧ IntsAre vs (digs (2 ^ n) k x) ∧ (∀ q ∈ news, q.1 < D) ∧ ∀ q ∈ ext, (∀ p ∈ news, p.1 < q.1) ∧ 44 < q.1 := by
  have hlaw : (fun (_ : OpenLaw) (_ : Params → Frag) => True) Challenge.rw_pg0168_03 hd.heap_39 := by k_fill; exact True.intro
  clear hlaw
  intro p loose mean mg mb dp un gd cn cs L a ccd cl outer A₀ base h₀ m s Q E B F X N T hH hcs hdp hun hret
  obtain ⟨ck, cnm, cg, cc, cm⟩ := cs
  obtain rfl : ck = .function := hcs
  obtain ⟨hH1, hH2⟩ := hH
  replace X : (hd.heap_39 w.params).In h₀ := X
  refine wpAny_call ?_
  k_dflt k_enter
  (repeat' ((fail_if_success (with_reducible show wpAny _ _ (makeFunction _ _ _ _ _ _ _ _ _ _ _) _ _ _)); first | (k_unfold; (try dsimp only)) | (k_end; wrow_close) | ((with_reducible show wpAny _ _ (eval (PySem.Expr.Name _ _) (envOfC _ _ _ _ _)) _ _ _); k_dflt (refine' nameX_L ?F ?v ?_ ?a ?b; (case F => k_asm); (case a => rfl); (case b => rfl); (case v => rfl); k_whole)) | walk1 | (dsimp only; walk1) | (leave1; walk_say "STEP leave1"; try dsimp only)))
  rename_i g1 L1 hA tkA FG1 B1 X1 T1 q1 l1 oA oB oC dA dB dC lD hB r1 r2 r3 r4 l2 D hC i1 n1 s1 e1 e2 e3 p1 p2 p3 p4 p5 l3 hD oD F2 NN d2
  k_dflt (refine' nestDef_K ?d0 ?k0 ?a0 ?_; (case d0 => exact rfl); (case k0 => exact rfl); (case a0 => exact rfl))
  k_dflt (refine' nestW (T0 := T0) (nm := nm30) ?F ?N ?T ?C ?cd ?hT ?hs ?hP ?hq ?cl ?_; (case F => k_asm); (case N => exact pull5 NN); (case T => k_asm); (case cd => exact rfl); (case C => kn_code); (case hT => exact hT); (case hs => exact fun q hq => .tail _ (.tail _ (.tail _ (.tail _ (.tail _ (hs0 q hq)))))); (case hP => exact FMC.all ⟨Nat.ne_of_gt (by omega), FMC.all ⟨Nat.ne_of_gt (by omega), FMC.all ⟨Nat.ne_of_gt (by omega), FMC.all ⟨Nat.ne_of_gt (by omega), FMC.all ⟨Nat.ne_of_gt (by omega), h30⟩⟩⟩⟩⟩); (case hq => rfl); (case cl => exact rfl))
  intro f c oc vs t ctv doc o9 ext9 h9 tk9 T9 hm9 hd9 hv9 hf9 hx9 F9 N9
  replace N9 := push5 N9
  have hmN : (c, oc) ∈ ext9 ++ news := (List.mem_append.mp hm9).elim (List.mem_append_left _) (fun h => List.mem_append_right _ (hs0 _ h))
  have hX9 : ∀ q ∈ ext9, (∀ p ∈ news, p.1 < q.1) ∧ @LT.lt Nat _ 44 q.1 := fun q hq => ⟨fun p hp => hx9 q hq p (.tail _ (.tail _ (.tail _ (.tail _ (.tail _ (.tail _ hp)))))), hx9 q hq _ (.head _)⟩
  have hEi : ∀ q ∈ ext9 ++ news, q.1 ≠ L1 + 1 + 1 + 1 := fun q hq => (List.mem_append.mp hq).elim (fun h => Nat.ne_of_gt (hx9 q h _ (.tail _ (.tail _ (.tail _ (.head _)))))) (fun h => Nat.ne_of_lt (Nat.lt_trans (allLt_mem l1 q h) (by omega)))
  have hED : ∀ q ∈ ext9 ++ news, q.1 ≠ D := fun q hq => (List.mem_append.mp hq).elim (fun h => Nat.ne_of_gt (hx9 q h _ (.tail _ (.head _)))) (fun h => Nat.ne_of_lt (allLt_mem l3 q h))
  have hfD : @LT.lt Nat _ D f := hf9 _ (.tail _ (List.mem_append_right _ (.head _)))
  clear hx9 hf9 hm9
  (repeat' ((fail_if_success (with_reducible show wpAny _ _ (call (Value.ref _) [(Value.int _ _), (Value.int _ _), (Value.int _ _)]) _ _ _)); first | (k_unfold; (try dsimp only)) | (k_end; wrow_close) | ((with_reducible show wpAny _ _ (eval (PySem.Expr.Name _ _) (envOfC _ _ _ _ _)) _ _ _); k_dflt (refine' nameX_L ?F ?v ?_ ?a ?b; (case F => k_asm); (case a => rfl); (case b => rfl); (case v => rfl); k_whole)) | walk1 | (dsimp only; walk1) | (leave1; walk_say "STEP leave1"; try dsimp only)))
  · have hk0 : 0 < k := bits_pos hn (by omega) hk
    (with_reducible rename (List.length _ = _) => e1)
    (with_reducible rename (0 ≤ _ → _) => e3)
    have hlen := flat_len e1 e3 hk
    refine' InnerOk.use (K := K03) (lo := 0) (x := x) (k := k) (B := 2 ^ n) ?specx rfl rfl ?eHx hx (by k_asm) ?hkx ?hlx ?Bx ?Fx ?Xx ?Nx ?Tx rfl ?hdx ?hux ?_
    case Bx => k_asm
    case Fx => k_asm
    case Xx => k_asm
    case Nx => exact rot1 (by k_asm)
    case Tx => k_asm
    case hdx => ktr_room
    case hux => ktr_units
    case eHx => omega
    case hkx => omega
    case hlx => omega
    case specx =>
      repeat (with_reducible rename News _ _ _ _ => zN; clear zN)
      repeat (with_reducible rename Fr _ _ _ _ => zN; clear zN)
      clear hret
      refine innerOk_all (fun k hk0 IH => ?_) _ hk0
      intro x lo vs ds t1 t2 t3 dp un gd cn cs L a ccd cl outer A₀ base h₀ m s Q E hx hv hlk hl B F X N T hcs hdp hun hret
      obtain ⟨ck, cnm, cg, cc, cm⟩ := cs
      obtain rfl : ck = .function := hcs
      replace X : (hd.heap_39 w.params).In h₀ := X
      have h300 := hf_300 hlk hl
      refine wpAny_call ?_
      k_dflt kn_enter
      (with_reducible rename Fr _ _ _ _ => lF0)
      refine frGen3 lF0 (a := PySem.Str.ofString "x") (b := PySem.Str.ofString "L") (c := PySem.Str.ofString "R") (by with_unfolding_all rfl) (by with_unfolding_all rfl) (by with_unfolding_all rfl) ?_
      clear lF0
      intro m0 lF0
      (repeat' ((fail_if_success (with_reducible show wpAny _ _ (call (Value.ref _) [(Value.int _ _), (Value.int _ _), (Value.int _ _)]) _ _ _)); first | (k_unfold; (try dsimp only)) | (k_end; wrow_close) | (with_reducible refine r_upper ?_) | (with_reducible refine r_midh ?_) | (with_reducible refine r_xor ?_) | ((with_reducible show wpAny _ _ (binaryOp .Mult (Value.int _ _) (Value.int _ _)) _ _ _); with_reducible refine' r_shift ?kk ?_; (case kk => omega)) | ((with_reducible show wpAny _ _ (binaryOp .LShift (Value.int _ _) (Value.int _ _)) _ _ _); with_reducible refine' r_shl ?k1 ?k2 ?_; (case k1 => first | with_reducible assumption | exact div_le_80 (by with_reducible assumption)); (case k2 => first | omega | exact e_ok (by omega) (by omega))) | ((with_reducible show wpAny _ _ (storeName _ _ _) _ _ _); k_dflt (refine' storeX_L ?F ?N ?_ ?a ?b; (case F => k_asm); (case N => k_asm); (case a => rfl); (case b => rfl); k_whole; intro _ _ _; (try k_sweep))) | walk1 | (dsimp only; walk1) | (leave1; walk_say "STEP leave1"; try dsimp only)))
      · have hk1 : k = 1 := by omega
        subst hk1
        refine hret _ _ _ ?_ (by k_asm) (by k_asm)
        rw [digs, ← putAt_one ds lo x (by omega)]
        k_asm
      · (with_reducible rename (¬ (_ : Int) = _) => z9)
        have hk2 := two_of hk0 z9
        clear z9
        obtain ⟨hp0, hp1, hp2, hp3⟩ := hf_pos hk2
        refine' (IH (hf k) hp0 hp1).use (x := x % 2 ^ (hf k * n)) (lo := lo) rfl rfl rfl (mod_le_80 hx) hv ?hka hl ?Ba ?Fa ?Xa ?Na ?Ta rfl ?hda ?hua ?_
        case hka => exact Nat.le_trans (Nat.add_le_add_left (hf_le k) lo) hlk
        case Ba => k_asm
        case Fa => k_asm
        case Xa => k_asm
        case Na => k_asm
        case Ta => k_asm
        case hda => first | exact room_h hdp hp1 | ktr_room
        case hua => first | exact unit_h hun hp1 | ktr_units
        intro vs1 h1 tk1 hv1 F1 N1
        (repeat' ((fail_if_success (with_reducible show wpAny _ _ (call (Value.ref _) [(Value.int _ _), (Value.int _ _), (Value.int _ _)]) _ _ _)); first | (k_unfold; (try dsimp only)) | (k_end; wrow_close) | walk1 | (dsimp only; walk1) | (leave1; walk_say "STEP leave1"; try dsimp only)))
        have hl1 := putAt_length ds lo (digs (2 ^ n) (hf k) (x % 2 ^ (hf k * n))) (by rw [digs_length]; exact Nat.le_trans (Nat.add_le_add_left (hf_le k) lo) hlk)
        refine' (IH (k - hf k) hp2 hp3).use (x := x / 2 ^ (hf k * n)) (lo := lo + hf k) rfl rfl ?eHb (div_le_80 hx) hv1 ?hkb ?hlb ?Bb ?Fb ?Xb ?Nb ?Tb rfl ?hdb ?hub ?_
        case eHb => exact congrArg Int.ofNat hf_split
        case hkb => rw [hl1, ← hf_split]; exact hlk
        case hlb => rw [hl1]; exact hl
        case Bb => k_asm
        case Fb => k_asm
        case Xb => k_asm
        case Nb => k_asm
        case Tb => k_asm
        case hdb => first | exact room_h hdp hp3 | ktr_room
        case hub => first | exact unit_h hun hp3 | ktr_units
        intro vs2 h2 tk2 hv2 F2 N2
        (repeat' ((fail_if_success (with_reducible show wpAny _ _ (call (Value.ref _) [(Value.int _ _), (Value.int _ _), (Value.int _ _)]) _ _ _)); first | (k_unfold; (try dsimp only)) | (k_end; wrow_close) | walk1 | (dsimp only; walk1) | (leave1; walk_say "STEP leave1"; try dsimp only)))
        refine hret _ _ _ ?_ (by k_asm) (by k_asm)
        rw [put_doneh ds lo n k x hk2 hlk] at hv2
        exact hv2
    intro vs1 h1 tk1 hv1 F1 N1
    (repeat' ((fail_if_success (with_reducible show wpAny _ _ (call (Value.ref _) [(Value.int _ _), (Value.int _ _), (Value.int _ _)]) _ _ _)); first | (k_unfold; (try dsimp only)) | (k_end; wrow_close) | walk1 | (dsimp only; walk1) | (leave1; walk_say "STEP leave1"; try dsimp only)))
    rw [putAt_whole _ _ (by rw [digs_length]; omega)] at hv1
    exact hret _ _ _ _ (by k_asm) (newsSub (by k_asm) (by (repeat' first | exact List.forall_mem_nil _ | refine FMC.all ⟨by k_mem, ?_⟩ | (intro p9 hp9; (repeat' first | assumption | refine List.Mem.tail _ ?_))))) ⟨_, _, o9, ext9, rfl, rfl, T9, hv1, by (repeat' ((with_reducible rename AllLt _ _ => z1); first | exact all_lt z1 (by omega) | clear z1)), hX9⟩
  · have hk0 : k = 0 := bits_zero hn (by omega) hk
    subst hk0
    (with_reducible rename (List.length _ = _) => e1)
    (with_reducible rename (0 ≤ _ → _) => e3)
    exact hret _ _ _ _ (by k_asm) (newsSub (by k_asm) (by (repeat' first | exact List.forall_mem_nil _ | refine FMC.all ⟨by k_mem, ?_⟩ | (intro p9 hp9; (repeat' first | assumption | refine List.Mem.tail _ ?_))))) ⟨_, _, o9, ext9, rfl, rfl, T9, flat_nil (by k_asm) (flat_len e1 e3 hk), by (repeat' ((with_reducible rename AllLt _ _ => z1); first | exact all_lt z1 (by omega) | clear z1)), hX9⟩
theorem i2dW {w : World} {news T0 : Led} (x n k : Nat) (hn : 0 < n) (hk : ((Builtin.Int.intBits x : Int) + n - 1).fdiv n = (k : Int)) (hk9 : k < 200) (hx : x < 2 ^ 80) (hn9 : n < 100) (t1 t2 : Tok) (h30 : ∀ p ∈ news, p.1 ≠ 44) (o30 : Obj) (hT : Tab30 o30 T0) (hs0 : ∀ p ∈ T0, p ∈ news) :
   CW K03 P03 w H03 49 300 3000 ((44, o30) :: news) [.int x t1, .int n t2] (fun G => ∀ D vs o30' ext, (Tab30 o30' (ext ++ T0)) → (IntsAre vs (digs (2 ^ n) k x)) → ((∀ q ∈ news, q.1 < D)) → (∀ q ∈ ext, (∀ p ∈ news, p.1 < q.1) ∧ 44 < q.1) → G (.ref D) ((D, W.listOf vs.toArray 0) :: (44, o30') :: (ext ++ news))) :=
  CS.toW (@i2d w news T0 x n k hn hk hk9 hx hn9 t1 t2 h30 o30 hT hs0) (fun v nw G hR hG => by
    obtain ⟨D, vs, o30', ext, rfl, rfl, r09, r19, r29, r39⟩ := hR
    exact hG D vs o30' ext r09 r19 r29 r39)
set_option maxRecDepth 100000 in
set_option maxHeartbeats 4000000 in
theorem d2i {w : World} {news T0 : Led} (ds : List Nat) (n : Nat) (hn9 : n < 100) (hds : ∀ d ∈ ds, d < 2 ^ n) (h80 : n * ds.length ≤ 80) (hl9 : ds.length < 200) (D : Addr) (vs : List Value) (c9 : Nat) (hD : (D, W.listOf vs.toArray c9) ∈ news) (hi : IntsAre vs (castL ds)) (t2 : Tok) (h37 : ∀ p ∈ news, p.1 ≠ 51) (o37 : Obj) (hT : Tab37 o37 T0) (hs0 : ∀ p ∈ T0, p ∈ news) :
   CS K03 P03 w H03 56 300 3000 ((51, o37) :: news) [.ref D, .int n t2]
    fun v nw => ∃ t o37' ext, v = .int ((valN (2 ^ n) ds : Nat) : Int) t ∧ nw = (51, o37') :: (ext ++ news) ∧ Tab37 o37' (ext ++ T0) ∧ ∀ q ∈ ext, (∀ p ∈ news, p.1 < q.1) ∧ 51 < q.1 := by
  have hlaw : (fun (_ : OpenLaw) (_ : Params → Frag) => True) Challenge.rw_pg0168_03 hd.heap_39 := by k_fill; exact True.intro
  clear hlaw
  intro p loose mean mg mb dp un gd cn cs L a ccd cl outer A₀ base h₀ m s Q E B F X N T hH hcs hdp hun hret
  obtain ⟨ck, cnm, cg, cc, cm⟩ := cs
  obtain rfl : ck = .function := hcs
  obtain ⟨hH1, hH2⟩ := hH
  replace X : (hd.heap_39 w.params).In h₀ := X
  have hlv : vs.length = ds.length := by have := hi.length; simpa [castL] using this
  refine wpAny_call ?_
  k_dflt k_enter
  (repeat' ((fail_if_success (with_reducible show wpAny _ _ (makeFunction _ _ _ _ _ _ _ _ _ _ _) _ _ _)); first | (k_unfold; (try dsimp only)) | (k_end; wrow_close) | walk1 | (dsimp only; walk1) | (leave1; walk_say "STEP leave1"; try dsimp only)))
  rename_i g1 L1 hA tkA FG1 F1 B1 X1 T1 q1 l1 oA oB oC dA dB dC NN
  k_dflt (refine' nestDef_K ?d0 ?k0 ?a0 ?_; (case d0 => exact rfl); (case k0 => exact rfl); (case a0 => exact rfl))
  k_dflt (refine' nestW (T0 := T0) (nm := nm37) ?F ?N ?T ?C ?cd ?hT ?hs ?hP ?hq ?cl ?_; (case F => k_asm); (case N => exact pull3 NN); (case T => k_asm); (case cd => exact rfl); (case C => kn_code); (case hT => exact hT); (case hs => exact fun q hq => .tail _ (.tail _ (.tail _ (hs0 q hq)))); (case hP => exact FMC.all ⟨Nat.ne_of_gt (by omega), FMC.all ⟨Nat.ne_of_gt (by omega), FMC.all ⟨Nat.ne_of_gt (by omega), h37⟩⟩⟩); (case hq => rfl); (case cl => exact rfl))
  intro f c oc vsT t ctv doc o9 ext9 h9 tk9 T9 hm9 hd9 hv9 hf9 hx9 F9 N9
  replace N9 := push3 N9
  have hmN : (c, oc) ∈ ext9 ++ news := (List.mem_append.mp hm9).elim (List.mem_append_left _) (fun h => List.mem_append_right _ (hs0 _ h))
  have hDN : (D, W.listOf vs.toArray c9) ∈ ext9 ++ news := List.mem_append_right _ hD
  have hX9 : ∀ q ∈ ext9, (∀ p ∈ news, p.1 < q.1) ∧ @LT.lt Nat _ 51 q.1 := fun q hq => ⟨fun p hp => hx9 q hq p (.tail _ (.tail _ (.tail _ (.tail _ hp)))), hx9 q hq _ (.head _)⟩
  have hEi : ∀ q ∈ ext9 ++ news, q.1 ≠ L1 + 1 + 1 + 1 := fun q hq => (List.mem_append.mp hq).elim (fun h => Nat.ne_of_gt (hx9 q h _ (.tail _ (.head _)))) (fun h => Nat.ne_of_lt (Nat.lt_trans (allLt_mem l1 q h) (by omega)))
  have hfL : @LT.lt Nat _ (L1 + 1 + 1 + 1) f := hf9 _ (.tail _ (List.mem_append_right _ (.head _)))
  clear hx9 hf9 hm9
  (repeat' ((fail_if_success (with_reducible show wpAny _ _ (call (Value.ref _) [(Value.int _ _), (Value.int _ _)]) _ _ _)); first | (k_unfold; (try dsimp only)) | (k_end; wrow_close) | ((with_reducible show wpAny _ _ (truthy (Value.ref _)) _ _ _); (refine' kgr_truthy (lo := W.listOf (List.toArray _) _) ?gN ?gm ?gc ?gd ?gf ?_); (case gN => k_asm); (case gm => k_mem); (case gc => rfl); (case gd => rfl); (case gf => omega)) | ((with_reducible show wpAny _ _ (call (Value.builtin "len") [(Value.ref _)]) _ _ _); (refine' my_len ?gN ?gm ?gl ?gf ?_); (case gN => k_asm); (case gm => k_mem); (case gl => with_reducible assumption); (case gf => omega); intro _) | walk1 | (dsimp only; walk1) | (leave1; walk_say "STEP leave1"; try dsimp only)))
  · have hds0 : ds = [] := by
      (with_reducible rename (List.isEmpty _ = true) => z9)
      rw [List.isEmpty_iff] at z9
      subst z9
      exact List.eq_nil_of_length_eq_zero hlv.symm
    subst hds0
    exact hret _ _ _ _ (by k_asm) (newsSub (by k_asm) (by (repeat' first | exact List.forall_mem_nil _ | refine FMC.all ⟨by k_mem, ?_⟩ | (intro p9 hp9; (repeat' first | assumption | refine List.Mem.tail _ ?_))))) ⟨_, o9, ext9, rfl, rfl, T9, hX9⟩
  · have hk0 : 0 < ds.length := by
      (with_reducible rename (List.isEmpty _ = false) => z9)
      cases vs with
      | nil => cases z9
      | cons _ _ => rw [← hlv]; exact Nat.succ_pos _
    refine' D2Ok.use (K := K03) (lo := 0) (k := ds.length) (B := 2 ^ n) (ds := ds) ?specx rfl ?eHx ?hkx ?Bx ?Fx ?Xx ?Nx ?Tx rfl ?hdx ?hux ?_
    case Bx => k_asm
    case Fx => k_asm
    case Xx => k_asm
    case Nx => k_asm
    case Tx => k_asm
    case hdx => ktr_room
    case hux => ktr_units
    case eHx => omega
    case hkx => omega
    case specx =>
      repeat (with_reducible rename News _ _ _ _ => zN; clear zN)
      repeat (with_reducible rename Fr _ _ _ _ => zN; clear zN)
      clear hret
      refine D2Ok.all (fun k hk0 IH => ?_) _ hk0
      intro lo t2 t3 dp un gd cn cs L a ccd cl outer A₀ base h₀ m s Q E hlk B F X N T hcs hdp hun hret
      obtain ⟨ck, cnm, cg, cc, cm⟩ := cs
      obtain rfl : ck = .function := hcs
      replace X : (hd.heap_39 w.params).In h₀ := X
      have h300 := hf_300 hlk hl9
      refine wpAny_call ?_
      k_dflt kn_enter
      (with_reducible rename Fr _ _ _ _ => lF0)
      refine frGen2 lF0 (a := PySem.Str.ofString "L") (b := PySem.Str.ofString "R") (by with_unfolding_all rfl) (by with_unfolding_all rfl) ?_
      clear lF0
      intro m0 lF0
      (repeat' ((fail_if_success (with_reducible show wpAny _ _ (call (Value.ref _) [(Value.int _ _), (Value.int _ _)]) _ _ _)); first | (k_unfold; (try dsimp only)) | (k_end; wrow_close) | (with_reducible refine r_midh ?_) | ((with_reducible show wpAny _ _ (binaryOp .Mult (Value.int _ _) (Value.int _ _)) _ _ _); with_reducible refine' r_shift ?kk ?_; (case kk => omega)) | ((with_reducible show wpAny _ _ (storeName _ _ _) _ _ _); k_dflt (refine' storeX_L ?F ?N ?_ ?a ?b; (case F => k_asm); (case N => k_asm); (case a => rfl); (case b => rfl); k_whole; intro _ _ _; (try k_sweep))) | walk1 | (dsimp only; walk1) | (leave1; walk_say "STEP leave1"; try dsimp only)))
      · have hk1 : k = 1 := by omega
        subst hk1
        rw [d2_one (B := 2 ^ n) hlk]
        exact hret _ _ _ (by k_asm) (by k_asm)
      · (with_reducible rename (¬ (_ : Int) = _) => z9)
        have hk2 := two_of hk0 z9
        clear z9
        obtain ⟨hp0, hp1, hp2, hp3⟩ := hf_pos hk2
        refine' (IH (k - hf k) hp2 hp3).use (lo := lo + hf k) rfl ?eHa ?hka ?Ba ?Fa ?Xa ?Na ?Ta rfl ?hda ?hua ?_
        case Ba => k_asm
        case Fa => k_asm
        case Xa => k_asm
        case Na => k_asm
        case Ta => k_asm
        case hda => first | exact room_h hdp hp3 | ktr_room
        case hua => first | exact unit_h hun hp3 | ktr_units
        case eHa => exact congrArg Int.ofNat hf_split
        case hka => rw [← hf_split]; exact hlk
        intro tv1 h1 tk1 F1 N1
        have hv1 := d2_lt (lo := lo + hf k) (k := k - hf k) hds h80
        (repeat' ((fail_if_success (with_reducible show wpAny _ _ (call (Value.ref _) [(Value.int _ _), (Value.int _ _)]) _ _ _)); first | (k_unfold; (try dsimp only)) | (k_end; wrow_close) | ((with_reducible show wpAny _ _ (binaryOp .LShift (Value.int _ _) (Value.int _ _)) _ _ _); with_reducible refine' r_shl ?k1 ?k2 ?_; (case k1 => first | with_reducible assumption | exact div_le_80 (by with_reducible assumption)); (case k2 => first | omega | exact e_ok (by omega) (by omega))) | walk1 | (dsimp only; walk1) | (leave1; walk_say "STEP leave1"; try dsimp only)))
        refine' (IH (hf k) hp0 hp1).use (lo := lo) rfl rfl ?hkb ?Bb ?Fb ?Xb ?Nb ?Tb rfl ?hdb ?hub ?_
        case Bb => k_asm
        case Fb => k_asm
        case Xb => k_asm
        case Nb => k_asm
        case Tb => k_asm
        case hdb => first | exact room_h hdp hp1 | ktr_room
        case hub => first | exact unit_h hun hp1 | ktr_units
        case hkb => exact Nat.le_trans (Nat.add_le_add_left (hf_le k) lo) hlk
        intro tv2 h2 tk2 F2 N2
        (repeat' ((fail_if_success (with_reducible show wpAny _ _ (call (Value.ref _) [(Value.int _ _), (Value.int _ _)]) _ _ _)); first | (k_unfold; (try dsimp only)) | (k_end; wrow_close) | walk1 | (dsimp only; walk1) | (leave1; walk_say "STEP leave1"; try dsimp only)))
        rw [d2_twoh (n := n) hk2 hlk]
        exact hret _ _ _ (by k_asm) (by k_asm)
    intro tv9 h1 tk1 F1 N1
    rw [d2_all]
    (repeat' ((fail_if_success (with_reducible show wpAny _ _ (call (Value.ref _) [(Value.int _ _), (Value.int _ _)]) _ _ _)); first | (k_unfold; (try dsimp only)) | (k_end; wrow_close) | walk1 | (dsimp only; walk1) | (leave1; walk_say "STEP leave1"; try dsimp only)))
    exact hret _ _ _ _ (by k_asm) (newsSub (by k_asm) (by (repeat' first | exact List.forall_mem_nil _ | refine FMC.all ⟨by k_mem, ?_⟩ | (intro p9 hp9; (repeat' first | assumption | refine List.Mem.tail _ ?_))))) ⟨_, o9, ext9, rfl, rfl, T9, hX9⟩
theorem d2iW {w : World} {news T0 : Led} (ds : List Nat) (n : Nat) (hn9 : n < 100) (hds : ∀ d ∈ ds, d < 2 ^ n) (h80 : n * ds.length ≤ 80) (hl9 : ds.length < 200) (D : Addr) (vs : List Value) (c9 : Nat) (hD : (D, W.listOf vs.toArray c9) ∈ news) (hi : IntsAre vs (castL ds)) (t2 : Tok) (h37 : ∀ p ∈ news, p.1 ≠ 51) (o37 : Obj) (hT : Tab37 o37 T0) (hs0 : ∀ p ∈ T0, p ∈ news) :
   CW K03 P03 w H03 56 300 3000 ((51, o37) :: news) [.ref D, .int n t2] (fun G => ∀ t o37' ext, (Tab37 o37' (ext ++ T0)) → (∀ q ∈ ext, (∀ p ∈ news, p.1 < q.1) ∧ 51 < q.1) → G (.int ((valN (2 ^ n) ds : Nat) : Int) t) ((51, o37') :: (ext ++ news))) :=
  CS.toW (@d2i w news T0 ds n hn9 hds h80 hl9 D vs c9 hD hi t2 h37 o37 hT hs0) (fun v nw G hR hG => by
    obtain ⟨t, o37', ext, rfl, rfl, r09, r19⟩ := hR
    exact hG t o37' ext r09 r19)
set_option maxRecDepth 100000 in
set_option maxHeartbeats 4000000 in
theorem div21 {w : World} {news : Led} (x b n : Nat) (hx : x < 2 ^ 100) (hb : 0 < b) (hb9 : b < 1073741824) (X : Int) (hX : X = (x : Int)) (t1 t2 t3 : Tok) :
   CS K03 P03 w H03 35 30 300 news [.int X t1, .int b t2, .int n t3]
    fun v nw => ∃ D u1 u2, v = .ref D ∧ nw = (D, tup [.int ((x / b : Nat) : Int) u1, .int ((x % b : Nat) : Int) u2]) :: news ∧ ∀ q ∈ news, q.1 < D := by
  subst hX
  have hlaw : (fun (_ : OpenLaw) (_ : Params → Frag) => True) Challenge.rw_pg0168_03 hd.heap_39 := by k_fill; exact True.intro
  clear hlaw
  intro p loose mean mg mb dp un gd cn cs L a ccd cl outer A₀ base h₀ m s Q E B F X N T hH hcs hdp hun hret
  obtain ⟨ck, cnm, cg, cc, cm⟩ := cs
  obtain rfl : ck = .function := hcs
  obtain ⟨hH1, hH2⟩ := hH
  replace X : (hd.heap_39 w.params).In h₀ := X
  have hbits : Builtin.Int.intBits (x : Int) ≤ 100 := intBits_le_iff.mpr (by omega)
  (repeat' (first | (k_unfold; (try dsimp only)) | (k_end; wrow_close) | ((with_reducible show ite _ _ _); refine ite_pos (by first | omega | (simp only [beq_iff_eq, bne_iff_ne, decide_eq_true_eq, Int.not_lt, Int.not_le]; omega)) ?_) | ((with_reducible show wpAny _ _ (call (Value.builtin "divmod") [(Value.int _ _), (Value.int _ _)]) _ _ _); (with_reducible refine' my_divmod ?gF ?gN ?gb ?g9 ?_); (case gF => k_asm); (case gN => k_asm); (case gb => omega); (case g9 => omega); intro _ _ _ _ _ _ _; walk_at "MINE ltI") | ((with_reducible show wpAny _ _ (eval (PySem.Expr.Name _ _) (envOf _ _ _ _ _)) _ _ _); k_dflt (refine' nameX_L ?F ?v ?_ ?a ?b; (case F => k_asm); (case a => rfl); (case b => rfl); (case v => rfl); k_whole)) | walk1 | (dsimp only; walk1) | (leave1; walk_say "STEP leave1"; try dsimp only)))
  exact hret _ _ _ _ (by k_asm) (by k_asm) ⟨_, _, _, rfl, rfl, by (repeat' ((with_reducible rename AllLt _ _ => z1); first | exact all_lt z1 (by omega) | clear z1))⟩
theorem div21W {w : World} {news : Led} (x b n : Nat) (hx : x < 2 ^ 100) (hb : 0 < b) (hb9 : b < 1073741824) (X : Int) (hX : X = (x : Int)) (t1 t2 t3 : Tok) :
   CW K03 P03 w H03 35 30 300 news [.int X t1, .int b t2, .int n t3] (fun G => ∀ D u1 u2, (∀ q ∈ news, q.1 < D) → G (.ref D) ((D, tup [.int ((x / b : Nat) : Int) u1, .int ((x % b : Nat) : Int) u2]) :: news)) :=
  CS.toW (@div21 w news x b n hx hb hb9 X hX t1 t2 t3) (fun v nw G hR hG => by
    obtain ⟨D, u1, u2, rfl, rfl, r09⟩ := hR
    exact hG D u1 u2 r09)
set_option compiler.extract_closed false
set_option maxRecDepth 100000 in
set_option maxHeartbeats 4000000 in
theorem hsvT {w : World} {news : Led} (k : Nat) (hk : k < 3) (x : UInt64) (hx : x = hue (2 * k)) (t1 t2 t3 : Tok) :
   CT K03 P03 w H03 28 1 8 news [.float x t1, .float f1 t2, .float f1 t3] (fun lo G => ∀ hi D u1 u2 u3, lo ≤ hi → (u1 = t3 ∨ lo ≤ u1 ∧ u1 < hi) → (u2 = t3 ∨ lo ≤ u2 ∧ u2 < hi) → (u3 = t3 ∨ lo ≤ u3 ∧ u3 < hi) → (∀ q ∈ news, q.1 < D) → G hi (.ref D) ((D, tup [.float (rgbOf (2 * k)).1 u1, .float (rgbOf (2 * k)).2.1 u2, .float (rgbOf (2 * k)).2.2 u3]) :: news)) := by
  have hlaw : (fun (_ : OpenLaw) (_ : Params → Frag) => True) Challenge.rw_pg0168_03 hd.heap_39 := by k_fill; exact True.intro
  clear hlaw
  intro p loose mean mg mb dp un gd cn cs L a ccd cl outer A₀ base h₀ m s Q E B F X N T hH hcs hdp hun hret
  obtain ⟨ck, cnm, cg, cc, cm⟩ := cs
  obtain rfl : ck = .function := hcs
  obtain ⟨hH1, hH2⟩ := hH
  replace X : (hd.heap_39 w.params).In h₀ := X
  subst hx
  have hk2 : 2 * k < 6 := by omega
  refine wpAny_call ?_
  k_dflt k_enter
  (with_reducible rename Fr _ _ _ _ => lF0)
  refine frGen3 lF0 (a := PySem.Str.ofString "h") (b := PySem.Str.ofString "s") (c := PySem.Str.ofString "v") (by with_unfolding_all rfl) (by with_unfolding_all rfl) (by with_unfolding_all rfl) ?_
  clear lF0
  intro m0 lF0
  (repeat' ((fail_if_success (with_reducible show wpAny _ _ (compareOp .Eq (Value.int _ _) (Value.int _ _)) _ _ _)); first | (k_unfold; (try dsimp only)) | ((with_reducible show wpAny _ _ (execs (_ :: _) _) _ _ _); (with_reducible refine wpAny_execs_cons ?_); try dsimp only) | ((with_reducible show wpAny _ _ (execs [] _) _ _ _); refine wpAny_execs_nil ?_; try dsimp only) | ((with_reducible show wpAny _ _ (binaryOp .Sub (Value.float _ _) (Value.int _ _)) _ _ _); (refine cl_subfi (inf_k (by with_reducible assumption)) ?_)) | ((with_reducible show ite _ _ _); refine ite_neg (by decide +kernel) ?_) | ((with_reducible show wpAny _ _ (call (Value.type "int") [(Value.float _ _)]) _ _ _); refine my_int_hue (k := _) ?hk9 ?_; (case hk9 => first | with_reducible assumption | decide)) | ((with_reducible show wpAny _ _ (eval (PySem.Expr.Name _ _) (envOf _ _ _ _ _)) _ _ _); k_dflt (refine' nameX_L ?F ?v ?_ ?a ?b; (case F => k_asm); (case a => rfl); (case b => rfl); (case v => rfl); k_whole)) | ((with_reducible show wpAny _ _ (storeName _ _ _) _ _ _); k_dflt (refine' storeX_L ?F ?N ?_ ?a ?b; (case F => k_asm); (case N => k_asm); (case a => rfl); (case b => rfl); k_whole; intro _ _ _; (try k_sweep))) | walk1 | (dsimp only; walk1)))
  have hk' : k = 0 ∨ k = 1 ∨ k = 2 := by omega
  rcases hk' with rfl | rfl | rfl
  all_goals
    (repeat' (first | (k_unfold; (try dsimp only)) | (k_end; wrow_close) | ((with_reducible show wpAny _ _ (execs (_ :: _) _) _ _ _); (with_reducible refine wpAny_execs_cons ?_); try dsimp only) | ((with_reducible show wpAny _ _ (execs [] _) _ _ _); refine wpAny_execs_nil ?_; try dsimp only) | ((with_reducible show ite _ _ _); refine ite_pos (by decide +kernel) ?_) | ((with_reducible show ite _ _ _); refine ite_neg (by decide +kernel) ?_) | ((with_reducible show wpAny _ _ (newTuple _) _ _ _); (k_dflt (refine' kup_newTuple ?gF9 ?gN9 ?_ ?gz9; (case gF9 => k_asm); (case gN9 => k_asm); (case gz9 => exact Nat.le_of_ble_eq_true rfl)); intro _ _ _ _; walk_at "MINE ltI")) | ((with_reducible show wpAny _ _ (eval (PySem.Expr.Name _ _) (envOf _ _ _ _ _)) _ _ _); k_dflt (refine' nameX_L ?F ?v ?_ ?a ?b; (case F => k_asm); (case a => rfl); (case b => rfl); (case v => rfl); k_whole)) | walk1 | (dsimp only; walk1) | (leave1; walk_say "STEP leave1"; try dsimp only)))
    (with_reducible rename News _ _ _ _ => zN)
    exact hret _ _ _ _ _ (by (repeat' first | exact Nat.le_refl _ | apply Nat.le_succ_of_le)) (by first | exact .inl rfl | exact .inr ⟨by (repeat' first | exact Nat.le_refl _ | apply Nat.le_succ_of_le), by (repeat' first | exact Nat.le_refl _ | apply Nat.le_succ_of_le)⟩) (by first | exact .inl rfl | exact .inr ⟨by (repeat' first | exact Nat.le_refl _ | apply Nat.le_succ_of_le), by (repeat' first | exact Nat.le_refl _ | apply Nat.le_succ_of_le)⟩) (by first | exact .inl rfl | exact .inr ⟨by (repeat' first | exact Nat.le_refl _ | apply Nat.le_succ_of_le), by (repeat' first | exact Nat.le_refl _ | apply Nat.le_succ_of_le)⟩) (by (repeat' ((with_reducible rename AllLt _ _ => z1); first | exact all_lt z1 (by omega) | clear z1))) _ (by assumption) (news3f zN (by decide +kernel) (by decide +kernel) (by decide +kernel))
set_option maxRecDepth 100000 in
set_option maxHeartbeats 4000000 in
theorem rgbF {w : World} {news : Led} (k : Nat) (hk : k < 6) (t1 t2 t3 : Tok) :
   CW K03 P03 w H03 21 1 8 news [.float (mixV k).1 t1, .float (mixV k).2.1 t2, .float (mixV k).2.2 t3] (fun G => ∀ D u1 u2 u3, (u3 = t1 ∨ u3 = t2 ∨ u3 = t3) → (∀ q ∈ news, q.1 < D) → G (.ref D) ((D, tup [.float (mixH k) u1, .float f1 u2, .float (mixM k) u3]) :: news)) := by
  have hlaw : (fun (_ : OpenLaw) (_ : Params → Frag) => True) Challenge.rw_pg0168_03 hd.heap_39 := by k_fill; exact True.intro
  clear hlaw
  intro p loose mean mg mb dp un gd cn cs L a ccd cl outer A₀ base h₀ m s Q E B F X N T hH hcs hdp hun hret
  obtain ⟨ck, cnm, cg, cc, cm⟩ := cs
  obtain rfl : ck = .function := hcs
  obtain ⟨hH1, hH2⟩ := hH
  replace X : (hd.heap_39 w.params).In h₀ := X
  refine wpAny_call ?_
  k_dflt k_enter
  (with_reducible rename Fr _ _ _ _ => lF0)
  refine frGen3 lF0 (a := PySem.Str.ofString "r") (b := PySem.Str.ofString "g") (c := PySem.Str.ofString "b") (by with_unfolding_all rfl) (by with_unfolding_all rfl) (by with_unfolding_all rfl) ?_
  clear lF0
  intro m0 lF0
  (repeat' ((fail_if_success (with_reducible show wpAny _ _ (binaryOp .Sub _ _) _ _ _)); first | (k_unfold; (try dsimp only)) | (k_end; wrow_close) | ((with_reducible show wpAny _ _ (execs (_ :: _) _) _ _ _); (with_reducible refine wpAny_execs_cons ?_); try dsimp only) | ((with_reducible show wpAny _ _ (call (Value.builtin "max") [(Value.float _ _), (Value.float _ _), (Value.float _ _)]) _ _ _); (refine' maxMix ?gk ?hh ?F ?N ?_); (case gk => with_reducible assumption); (case hh => rfl); (case F => k_asm); (case N => k_asm); intro _ _ _ _ _ _) | ((with_reducible show wpAny _ _ (call (Value.builtin "min") [(Value.float _ _), (Value.float _ _), (Value.float _ _)]) _ _ _); (refine' minMix ?gk ?hh ?F ?N ?_); (case gk => with_reducible assumption); (case hh => rfl); (case F => k_asm); (case N => k_asm); intro _ _ _ _ _) | ((with_reducible show wpAny _ _ (eval (PySem.Expr.Name _ _) (envOf _ _ _ _ _)) _ _ _); k_dflt (refine' nameX_L ?F ?v ?_ ?a ?b; (case F => k_asm); (case a => rfl); (case b => rfl); (case v => rfl); k_whole)) | ((with_reducible show wpAny _ _ (storeName _ _ _) _ _ _); k_dflt (refine' storeX_L ?F ?N ?_ ?a ?b; (case F => k_asm); (case N => k_asm); (case a => rfl); (case b => rfl); k_whole; intro _ _ _; (try k_sweep))) | walk1 | (dsimp only; walk1) | (leave1; walk_say "STEP leave1"; try dsimp only)))
  (with_reducible rename (_ ∨ _ ∨ _) => hx3)
  have hk6 : k = 0 ∨ k = 1 ∨ k = 2 ∨ k = 3 ∨ k = 4 ∨ k = 5 := by omega
  rcases hk6 with rfl | rfl | rfl | rfl | rfl | rfl
  all_goals
    (repeat' (first | (k_unfold; (try dsimp only)) | (k_end; wrow_close) | ((with_reducible show wpAny _ _ (execs (_ :: _) _) _ _ _); (with_reducible refine wpAny_execs_cons ?_); try dsimp only) | ((with_reducible show wpAny _ _ (execs [] _) _ _ _); refine wpAny_execs_nil ?_; try dsimp only) | ((with_reducible show wpAny _ _ (binaryOp .Div (Value.float _ _) (Value.float _ _)) _ _ _); refine cl_divff (by decide +kernel) ?_) | ((with_reducible show wpAny _ _ (binaryOp .Mod (Value.float _ _) (Value.float _ _)) _ _ _); refine cl_modff (by decide +kernel) ?_) | ((with_reducible show ite _ _ _); refine ite_pos (by decide +kernel) ?_) | ((with_reducible show ite _ _ _); refine ite_neg (by decide +kernel) ?_) | ((with_reducible show wpAny _ _ (newTuple _) _ _ _); (k_dflt (refine' kup_newTuple ?gF9 ?gN9 ?_ ?gz9; (case gF9 => k_asm); (case gN9 => k_asm); (case gz9 => exact Nat.le_of_ble_eq_true rfl)); intro _ _ _ _; walk_at "MINE ltI")) | ((with_reducible show wpAny _ _ (eval (PySem.Expr.Name _ _) (envOf _ _ _ _ _)) _ _ _); k_dflt (refine' nameX_L ?F ?v ?_ ?a ?b; (case F => k_asm); (case a => rfl); (case b => rfl); (case v => rfl); k_whole)) | ((with_reducible show wpAny _ _ (storeName _ _ _) _ _ _); k_dflt (refine' storeX_L ?F ?N ?_ ?a ?b; (case F => k_asm); (case N => k_asm); (case a => rfl); (case b => rfl); k_whole; intro _ _ _; (try k_sweep))) | walk1 | (dsimp only; walk1) | (leave1; walk_say "STEP leave1"; try dsimp only)))
    (with_reducible rename News _ _ _ _ => zN)
    exact hret _ _ _ _ hx3 (by (repeat' ((with_reducible rename AllLt _ _ => z1); first | exact all_lt z1 (by omega) | clear z1))) _ _ (by assumption) (news3f zN (by decide +kernel) (by decide +kernel) (by decide +kernel))
set_option compiler.extract_closed false
set_option maxRecDepth 100000 in
set_option maxHeartbeats 4000000 in
theorem dmp {w : World} {news T0 : Led} (av bv n k : Nat) (ha : av < 2 ^ 60) (hb : 0 < bv) (hb9 : bv < 1073741824) (hn : Builtin.Int.intBits (bv : Int) = n) (hk : ((Builtin.Int.intBits av : Int) + n - 1).fdiv n = (k : Int)) (hk9 : n * k ≤ 80) (hk8 : k < 200) (t1 t2 : Tok)
   (h30 : ∀ p ∈ news, p.1 ≠ 44) (h37 : ∀ p ∈ news, p.1 ≠ 51) (o30 o37 : Obj) (hT30 : Tab30 o30 T0) (hT37 : Tab37 o37 T0) (hs0 : ∀ p ∈ T0, p ∈ news) :
   CS K03 P03 w H03 63 400 4000 ((44, o30) :: (51, o37) :: news) [.int av t1, .int bv t2]
    fun v nw => ∃ D u1 u2 o30' o37' ext, v = .ref D ∧ nw = (D, tup [.int ((av / bv : Nat) : Int) u1, .int ((av % bv : Nat) : Int) u2]) :: (44, o30') :: (51, o37') :: (ext ++ news) ∧ Tab30 o30' (ext ++ T0) ∧ Tab37 o37' (ext ++ T0) ∧ (∀ q ∈ news, q.1 < D) ∧ 51 < D ∧ ∀ q ∈ ext, (∀ p ∈ news, p.1 < q.1) ∧ 51 < q.1 := by
  have hlaw : (fun (_ : OpenLaw) (_ : Params → Frag) => True) Challenge.rw_pg0168_03 hd.heap_39 := by k_fill; exact True.intro
  clear hlaw
  intro p loose mean mg mb dp un gd cn cs L a ccd cl outer A₀ base h₀ m s Q E B F X N T hH hcs hdp hun hret
  obtain ⟨ck, cnm, cg, cc, cm⟩ := cs
  obtain rfl : ck = .function := hcs
  obtain ⟨hH1, hH2⟩ := hH
  replace X : (hd.heap_39 w.params).In h₀ := X
  have hn0 : 0 < n := hn ▸ pow_bits_pos hb
  have hn9 : n ≤ 30 := hn ▸ intBits_le_iff.mpr (by omega)
  refine wpAny_call ?_
  k_dflt k_enter
  (with_reducible rename Fr _ _ _ _ => lF0)
  refine frGen2 lF0 (a := PySem.Str.ofString "a") (b := PySem.Str.ofString "b") (by with_unfolding_all rfl) (by with_unfolding_all rfl) ?_
  clear lF0
  intro m0 lF0
  (repeat' ((fail_if_success (first | (with_reducible show wpAny _ _ (call (Value.ref _) _) _ _ _) | (with_reducible show wpAny _ _ (pyIter _) _ _ _) | (with_reducible show UnrPost _ _ _ _ _ _ _ _ _))); first | (k_unfold; (try dsimp only)) | (k_end; wrow_close) | ((with_reducible show wpAny _ _ (callWith _ (Value.ref _) _ _ _) _ _ _); (k_here; (k_dflt (refine' callWith_K ?k1 ?k2 ?_; (case k1 => k_asm); (case k2 => k_is); k_whole)))) | ((with_reducible show wpAny _ _ (eval (PySem.Expr.Name _ _) (envOf _ _ _ _ _)) _ _ _); k_dflt (refine' nameX_L ?F ?v ?_ ?a ?b; (case F => k_asm); (case a => rfl); (case b => rfl); (case v => rfl); k_whole)) | ((with_reducible show wpAny _ _ (storeName _ _ _) _ _ _); k_dflt (refine' storeX_L ?F ?N ?_ ?a ?b; (case F => k_asm); (case N => k_asm); (case a => rfl); (case b => rfl); k_whole; intro _ _ _; (try k_sweep))) | walk1 | (dsimp only; walk1) | (leave1; walk_say "STEP leave1"; try dsimp only)))
  rw [hn]
  refine' (i2dW (w := w) (T0 := T0) av n k hn0 hk hk8 (by omega) (by omega) _ _ ?h30 o30 hT30 ?hs9).use (K := K03) ?B ?F ?X ?N ?T ⟨hH1, hH2⟩ rfl ?hd ?hu ?_
  case N => k_asm
  case h30 => exact FMC.all ⟨show (51 : Addr) ≠ 44 by decide, h30⟩
  case hs9 => exact fun p hp => .tail _ (hs0 p hp)
  case B => k_asm
  case F => k_asm
  case X => k_asm
  case T => k_asm
  case hd => ktr_room
  case hu => ktr_units
  intro D vs o30' ext T30' hv hlt hext h1 tk1 F1 N1
  replace N1 := newsSub N1 ledA
  have hE37 : ∀ p ∈ ext ++ news, p.1 ≠ 51 := fun p hp => (List.mem_append.mp hp).elim (fun h => Nat.ne_of_gt ((hext p h).1 _ (.head _))) (h37 p)
  have hE30 : ∀ p ∈ ext ++ news, p.1 ≠ 44 := fun p hp => (List.mem_append.mp hp).elim (fun h => Nat.ne_of_gt (hext p h).2) (h30 p)
  (repeat' ((fail_if_success (first | (with_reducible show wpAny _ _ (call (Value.ref _) _) _ _ _) | (with_reducible show wpAny _ _ (pyIter _) _ _ _) | (with_reducible show UnrPost _ _ _ _ _ _ _ _ _))); first | (k_unfold; (try dsimp only)) | (k_end; wrow_close) | ((with_reducible show wpAny _ _ (eval (PySem.Expr.Name _ _) (envOf _ _ _ _ _)) _ _ _); k_dflt (refine' nameX_L ?F ?v ?_ ?a ?b; (case F => k_asm); (case a => rfl); (case b => rfl); (case v => rfl); k_whole)) | ((with_reducible show wpAny _ _ (storeName _ _ _) _ _ _); k_dflt (refine' storeX_L ?F ?N ?_ ?a ?b; (case F => k_asm); (case N => k_asm); (case a => rfl); (case b => rfl); k_whole; intro _ _ _; (try k_sweep))) | walk1 | (dsimp only; walk1) | (leave1; walk_say "STEP leave1"; try dsimp only)))
  rename_i Dq hA q1 q2 q3 q4 hB I hC F5 N5 q5 q6 q7 q8 q9
  rw [digs_cast] at hv
  have hroom := bits_room hn0 hk
  have hdl := digsN_length (2 ^ n) k av
  have hlv : vs.length = k := by have := hv.length; simpa [castL, hdl] using this
  refine' iter_revUnr (vs := vs) (lo := W.listOf vs.toArray 0) (n := 0) rfl ?Fb ?Nb ?off ?hm rfl rfl ?rest
  case Fb => k_asm
  case Nb => k_asm
  case off => exact offI_of (by (repeat' first | exact List.forall_mem_nil _ | (refine FMC.all ⟨?_, ?_⟩; (focus (refine ltN ?_; (try dsimp only); omega))) | assumption | ((with_reducible rename AllLt _ _ => z1); first | exact all_lt z1 (by omega) | clear z1)))
  case hm => k_mem
  case rest =>
    refine' RevIndQ (DivP Dq ((D, W.listOf vs.toArray 0) :: (44, o30') :: (51, o37) :: (ext ++ news)) bv n (divLoop (2 ^ n) bv (digsN (2 ^ n) k av).reverse 0 [])) ?turn ?done _ _ _ ?start
    case start =>
      refine fun _ kk => kk (digsN (2 ^ n) k av).reverse 0 [] [] _ _ _ _ ?_ .nil rfl rfl (by rw [← hn]; exact rfl) rfl hb ?_ ?_ rfl
      · have := ints_reverse hv
        rwa [castL, ← List.map_reverse] at this
      · intro d hd
        exact digsN_lt (Nat.two_pow_pos n) k av hroom d (List.mem_reverse.mp hd)
      · simp [hdl]; omega
    case turn =>
      intro v us m nw hDv
      apply DivP.turn hDv
      clear hDv
      intro d td rd r q qv tr tb tn c hus2 hqv e1 e2 e3 e4 hr hrd hlen hR it h9 tk9 Q9 E9 hU hit F9 N9
      focus
        have hd0 := hrd d (.head _)
        have hr80 : r < 2 ^ 80 := by omega
        rw [mx4 e1 e2 e3 e4] at F9
        (repeat' ((fail_if_success (first | (with_reducible show wpAny _ _ (call (Value.ref _) _) _ _ _) | (with_reducible show wpAny _ _ (pyIter _) _ _ _) | (with_reducible show UnrPost _ _ _ _ _ _ _ _ _))); first | (k_unfold; (try dsimp only)) | (k_end; wrow_close) | ((with_reducible show wpAny _ _ (binaryOp .LShift (Value.int _ _) (Value.int _ _)) _ _ _); with_reducible refine' r_shl ?k1 ?k2 ?_; (case k1 => first | with_reducible assumption | exact div_le_80 (by with_reducible assumption)); (case k2 => first | omega | exact e_ok (by omega) (by omega))) | ((with_reducible show wpAny _ _ (callWith _ (Value.ref _) _ _ _) _ _ _); (k_here; (k_dflt (refine' callWith_K ?k1 ?k2 ?_; (case k1 => k_asm); (case k2 => k_is); k_whole)))) | ((with_reducible show wpAny _ _ (eval (PySem.Expr.Name _ _) (envOf _ _ _ _ _)) _ _ _); k_dflt (refine' nameX_L ?F ?v ?_ ?a ?b; (case F => k_asm); (case a => rfl); (case b => rfl); (case v => rfl); k_whole)) | walk1 | (dsimp only; walk1) | (leave1; walk_say "STEP leave1"; try dsimp only)))
        refine' (div21W (w := w) (r * 2 ^ n + d) bv n (div_room hr hb9 hd0 hn9) hb hb9 _ (Int.natCast_add _ _).symm _ _ _).use (K := K03) ?B1 ?F1 ?X1 ?N1 ?T1 ⟨hH1, hH2⟩ rfl ?hd1 ?hu1 ?_
        case B1 => k_asm
        case F1 => k_asm
        case X1 => k_asm
        case N1 => k_asm
        case T1 => k_asm
        case hd1 => ktr_room
        case hu1 => ktr_units
        intro D2 u1 u2 l2 h2 tk2 F2 N2
        k_lt l2
        (repeat' ((fail_if_success (first | (with_reducible show wpAny _ _ (call (Value.ref _) _) _ _ _) | (with_reducible show wpAny _ _ (pyIter _) _ _ _) | (with_reducible show UnrPost _ _ _ _ _ _ _ _ _))); first | (k_unfold; (try dsimp only)) | (k_end; wrow_close) | ((with_reducible show wpAny _ _ (eval (PySem.Expr.Name _ _) (envOf _ _ _ _ _)) _ _ _); k_dflt (refine' nameX_L ?F ?v ?_ ?a ?b; (case F => k_asm); (case a => rfl); (case b => rfl); (case v => rfl); k_whole)) | ((with_reducible show wpAny _ _ (storeName _ _ _) _ _ _); k_dflt (refine' storeX_L ?F ?N ?_ ?a ?b; (case F => k_asm); (case N => k_asm); (case a => rfl); (case b => rfl); k_whole; intro _ _ _; (try k_sweep))) | walk1 | (dsimp only; walk1) | (leave1; walk_say "STEP leave1"; try dsimp only)))
        (with_reducible rename News _ _ _ _ => N8)
        simp only [List.push_toArray] at N8
        refine hU (by k_asm) N8 _ ?sub ?off ⟨?mem, fun _ kk => kk rd _ _ _ _ _ _ (c + 1) hus2 (ints_pushN hqv _ u1) rfl rfl rfl rfl (Nat.mod_lt _ hb) (fun x hx => hrd x (.tail _ hx)) ?len hR⟩
        case sub => (repeat' first | exact List.forall_mem_nil _ | refine FMC.all ⟨by k_mem, ?_⟩ | (intro p9 hp9; (repeat' first | assumption | refine List.Mem.tail _ ?_)))
        case off => exact ne_lt (by (repeat' first | exact List.forall_mem_nil _ | (refine FMC.all ⟨?_, ?_⟩; (focus (refine ltN ?_; (try dsimp only); omega))) | assumption | ((with_reducible rename AllLt _ _ => z1); first | exact all_lt z1 (by omega) | clear z1)))
        case mem => k_mem
        case len => simp only [List.length_append, List.length_cons, List.length_nil] at hlen ⊢; omega
    case done =>
      intro m nw hDv
      apply DivP.done hDv
      clear hDv
      intro r q qv tr tb tn c hqv e1 e2 e3 e4 hr hlen hR h9 tk9 F9 N9
      focus
        rw [mx4 e1 e2 e3 e4] at F9
        have hlq : qv.length = q.length := by have := hqv.length; simpa [castL] using this
        have hlq9 : qv.length < 200 := by omega
        (repeat' ((fail_if_success (first | (with_reducible show wpAny _ _ (call (Value.ref _) _) _ _ _) | (with_reducible show wpAny _ _ (pyIter _) _ _ _) | (with_reducible show UnrPost _ _ _ _ _ _ _ _ _))); first | (k_unfold; (try dsimp only)) | (k_end; wrow_close) | ((with_reducible show wpAny _ _ (call (Value.builtin "list.reverse") _) _ _ _); (k_dflt (refine' my_reverse ?gF ?gN ?gU ?gz ?_; (case gF => k_asm); (case gN => k_asm); (case gU => k_upd); (case gz => omega)); intro _ _ _)) | ((with_reducible show wpAny _ _ (callWith _ (Value.ref _) _ _ _) _ _ _); (k_here; (k_dflt (refine' callWith_K ?k1 ?k2 ?_; (case k1 => k_asm); (case k2 => k_is); k_whole)))) | ((with_reducible show wpAny _ _ (eval (PySem.Expr.Name _ _) (envOf _ _ _ _ _)) _ _ _); k_dflt (refine' nameX_L ?F ?v ?_ ?a ?b; (case F => k_asm); (case a => rfl); (case b => rfl); (case v => rfl); k_whole)) | walk1 | (dsimp only; walk1) | (leave1; walk_say "STEP leave1"; try dsimp only)))
        obtain ⟨z1, z2, z3, z4⟩ := divAll hb hroom hR
        refine' (d2iW (w := w) (T0 := T0) q.reverse n (by omega) z3 (by rw [z4]; exact hk9) (by omega) Dq qv.reverse c (.head _) ?hi _ ?h37b o37 hT37 ?hTb).use (K := K03) ?B2 ?F2 ?X2 ?N2 ?T2 ⟨hH1, hH2⟩ rfl ?hd2 ?hu2 ?_
        case B2 => k_asm
        case F2 => k_asm
        case X2 => k_asm
        case N2 => exact newsSub (T := (51, o37) :: (Dq, W.listOf qv.reverse.toArray c) :: (44, o30') :: (ext ++ news)) (by k_asm) (by (repeat' first | exact List.forall_mem_nil _ | refine FMC.all ⟨by k_mem, ?_⟩ | (intro p9 hp9; (repeat' first | assumption | refine List.Mem.tail _ ?_))))
        case T2 => k_asm
        case hd2 => ktr_room
        case hu2 => ktr_units
        case hi =>
          have := ints_reverse hqv
          rwa [castL, ← List.map_reverse] at this
        case h37b => exact FMC.all ⟨Nat.ne_of_gt q3, FMC.all ⟨show (44 : Addr) ≠ 51 by decide, hE37⟩⟩
        case hTb => exact fun p hp => .tail _ (.tail _ (List.mem_append.mpr (.inr (hs0 p hp))))
        intro t9 o37' ext2 T37' hext2 h2 tk2 F2 N2
        (repeat' ((fail_if_success (first | (with_reducible show wpAny _ _ (call (Value.ref _) _) _ _ _) | (with_reducible show wpAny _ _ (pyIter _) _ _ _) | (with_reducible show UnrPost _ _ _ _ _ _ _ _ _))); first | (k_unfold; (try dsimp only)) | (k_end; wrow_close) | ((with_reducible show wpAny _ _ (newTuple _) _ _ _); (k_dflt (refine' kup_newTuple ?gF9 ?gN9 ?_ ?gz9; (case gF9 => k_asm); (case gN9 => k_asm); (case gz9 => exact Nat.le_of_ble_eq_true rfl)); intro _ _ _ _; walk_at "MINE ltI")) | ((with_reducible show wpAny _ _ (eval (PySem.Expr.Name _ _) (envOf _ _ _ _ _)) _ _ _); k_dflt (refine' nameX_L ?F ?v ?_ ?a ?b; (case F => k_asm); (case a => rfl); (case b => rfl); (case v => rfl); k_whole)) | ((with_reducible show wpAny _ _ (storeName _ _ _) _ _ _); k_dflt (refine' storeX_L ?F ?N ?_ ?a ?b; (case F => k_asm); (case N => k_asm); (case a => rfl); (case b => rfl); k_whole; intro _ _ _; (try k_sweep))) | walk1 | (dsimp only; walk1) | (leave1; walk_say "STEP leave1"; try dsimp only)))
        (with_reducible rename News _ _ _ _ => kN8)
        (with_reducible rename AllLt _ _ => zl)
        rw [z2] at kN8
        subst z1
        exact hret _ _ _ _ (by k_asm) (newsSub kN8 endLed) ⟨_, _, _, o30', o37', ext2 ++ ext, rfl, rfl, T30'.mono app_mono, T37'.mono app_monoR, fun x hx => allLt_mem zl x (List.mem_append.mpr (.inr (.tail _ (.tail _ (List.mem_append.mpr (.inr hx)))))), by k_asm, fresh_app hext2 hext⟩
noncomputable def DmPost (news T0 : Led) (x y : Int) (v : Value) (nw : Led) : Prop :=
  ∃ D u1 u2 o30' o37' ext, v = .ref D ∧ nw = (D, tup [.int (x.fdiv y) u1, .int (x.fmod y) u2]) :: (44, o30') :: (51, o37') :: (ext ++ news) ∧ Tab30 o30' (ext ++ T0) ∧ Tab37 o37' (ext ++ T0) ∧ (∀ q ∈ news, q.1 < D) ∧ 51 < D ∧ ∀ q ∈ ext, (∀ p ∈ news, p.1 < q.1) ∧ 51 < q.1
theorem dmpW {w : World} {news T0 : Led} (av bv n k : Nat) (ha : av < 2 ^ 60) (hb : 0 < bv) (hb9 : bv < 1073741824) (hn : Builtin.Int.intBits (bv : Int) = n) (hk : ((Builtin.Int.intBits av : Int) + n - 1).fdiv n = (k : Int)) (hk9 : n * k ≤ 80) (hk8 : k < 200) (t1 t2 : Tok)
   (h30 : ∀ p ∈ news, p.1 ≠ 44) (h37 : ∀ p ∈ news, p.1 ≠ 51) (o30 o37 : Obj) (hT30 : Tab30 o30 T0) (hT37 : Tab37 o37 T0) (hs0 : ∀ p ∈ T0, p ∈ news) :
   CW K03 P03 w H03 63 400 4000 ((44, o30) :: (51, o37) :: news) [.int av t1, .int bv t2] (fun G => ∀ D u1 u2 o30' o37' ext, (Tab30 o30' (ext ++ T0)) → (Tab37 o37' (ext ++ T0)) → ((∀ q ∈ news, q.1 < D)) → (51 < D) → (∀ q ∈ ext, (∀ p ∈ news, p.1 < q.1) ∧ 51 < q.1) → G (.ref D) ((D, tup [.int ((av / bv : Nat) : Int) u1, .int ((av % bv : Nat) : Int) u2]) :: (44, o30') :: (51, o37') :: (ext ++ news))) :=
  CS.toW (@dmp w news T0 av bv n k ha hb hb9 hn hk hk9 hk8 t1 t2 h30 h37 o30 o37 hT30 hT37 hs0) (fun v nw G hR hG => by
    obtain ⟨D, u1, u2, o30', o37', ext, rfl, rfl, r09, r19, r29, r39, r49⟩ := hR
    exact hG D u1 u2 o30' o37' ext r09 r19 r29 r39 r49)
set_option maxRecDepth 100000 in
set_option maxHeartbeats 4000000 in
theorem idm0 {w : World} {news T0 : Led} (av bv : Nat) (ha : av < 2 ^ 60) (hb : 0 < bv) (hb9 : bv < 65536) (x y : Int) (hx : x = (av : Int)) (hy : y = (bv : Int)) (t1 t2 : Tok) (h30 : ∀ p ∈ news, p.1 ≠ 44) (h37 : ∀ p ∈ news, p.1 ≠ 51) (o30 o37 : Obj) (hT30 : Tab30 o30 T0) (hT37 : Tab37 o37 T0) (hs0 : ∀ p ∈ T0, p ∈ news) :
   CS K03 P03 w H03 70 420 4200 ((44, o30) :: (51, o37) :: news) [.int x t1, .int y t2] (DmPost news T0 x y) := by
  subst hx; subst hy
  have hlaw : (fun (_ : OpenLaw) (_ : Params → Frag) => True) Challenge.rw_pg0168_03 hd.heap_39 := by k_fill; exact True.intro
  clear hlaw
  intro p loose mean mg mb dp un gd cn cs L a ccd cl outer A₀ base h₀ m s Q E B F X N T hH hcs hdp hun hret
  obtain ⟨ck, cnm, cg, cc, cm⟩ := cs
  obtain rfl : ck = .function := hcs
  obtain ⟨hH1, hH2⟩ := hH
  replace X : (hd.heap_39 w.params).In h₀ := X
  obtain ⟨n, k, e1, e2, e3, e4⟩ := div_k ha hb hb9
  refine wpAny_call ?_
  k_dflt k_enter
  (with_reducible rename Fr _ _ _ _ => lF0)
  refine frGen2 lF0 (a := PySem.Str.ofString "a") (b := PySem.Str.ofString "b") (by with_unfolding_all rfl) (by with_unfolding_all rfl) ?_
  clear lF0
  intro m0 lF0
  (repeat' ((fail_if_success (first | (with_reducible show wpAny _ _ (call (Value.ref _) _) _ _ _) | (with_reducible show wpAny _ _ (pyIter _) _ _ _) | (with_reducible show UnrPost _ _ _ _ _ _ _ _ _))); first | (k_unfold; (try dsimp only)) | (k_end; wrow_close) | ((with_reducible show ite _ _ _); refine ite_neg (by first | omega | (simp only [beq_iff_eq, bne_iff_ne, decide_eq_true_eq, Int.not_lt, Int.not_le]; omega)) ?_) | ((with_reducible show wpAny _ _ (callWith _ (Value.ref _) _ _ _) _ _ _); (k_here; (k_dflt (refine' callWith_K ?k1 ?k2 ?_; (case k1 => k_asm); (case k2 => k_is); k_whole)))) | ((with_reducible show wpAny _ _ (eval (PySem.Expr.Name _ _) (envOf _ _ _ _ _)) _ _ _); k_dflt (refine' nameX_L ?F ?v ?_ ?a ?b; (case F => k_asm); (case a => rfl); (case b => rfl); (case v => rfl); k_whole)) | walk1 | (dsimp only; walk1) | (leave1; walk_say "STEP leave1"; try dsimp only)))
  refine' ((dmpW (w := w) (T0 := T0) av bv n k ha hb (by omega) e1 e2 e3 e4) _ _ h30 h37 o30 o37 hT30 hT37 hs0).use (K := K03) ?B ?F ?X ?N ?T ⟨hH1, hH2⟩ rfl ?hd ?hu ?_
  case N => k_asm
  case B => k_asm
  case F => k_asm
  case X => k_asm
  case T => k_asm
  case hd => ktr_room
  case hu => ktr_units
  intro D u1 u2 o30' o37' ext T30' T37' l1 l2 l3 h1 tk1 F1 N1
  (repeat' ((fail_if_success (first | (with_reducible show wpAny _ _ (call (Value.ref _) _) _ _ _) | (with_reducible show wpAny _ _ (pyIter _) _ _ _) | (with_reducible show UnrPost _ _ _ _ _ _ _ _ _))); first | (k_unfold; (try dsimp only)) | (k_end; wrow_close) | walk1 | (dsimp only; walk1) | (leave1; walk_say "STEP leave1"; try dsimp only)))
  rw [(fdm_nat av bv).1, (fdm_nat av bv).2] at N1
  exact hret _ _ _ _ (by k_asm) (by k_asm) ⟨D, u1, u2, o30', o37', ext, rfl, by rw [(fdm_nat av bv).1, (fdm_nat av bv).2], T30', T37', l1, l2, l3⟩
theorem idm0W {w : World} {news T0 : Led} (av bv : Nat) (ha : av < 2 ^ 60) (hb : 0 < bv) (hb9 : bv < 65536) (x y : Int) (hx : x = (av : Int)) (hy : y = (bv : Int)) (t1 t2 : Tok) (h30 : ∀ p ∈ news, p.1 ≠ 44) (h37 : ∀ p ∈ news, p.1 ≠ 51) (o30 o37 : Obj) (hT30 : Tab30 o30 T0) (hT37 : Tab37 o37 T0) (hs0 : ∀ p ∈ T0, p ∈ news) :
   CW K03 P03 w H03 70 420 4200 ((44, o30) :: (51, o37) :: news) [.int x t1, .int y t2] (fun G => ∀ D u1 u2 o30' o37' ext, (Tab30 o30' (ext ++ T0)) → (Tab37 o37' (ext ++ T0)) → ((∀ q ∈ news, q.1 < D)) → (51 < D) → (∀ q ∈ ext, (∀ p ∈ news, p.1 < q.1) ∧ 51 < q.1) → G (.ref D) ((D, tup [.int (x.fdiv y) u1, .int (x.fmod y) u2]) :: (44, o30') :: (51, o37') :: (ext ++ news))) :=
  CS.toW (@idm0 w news T0 av bv ha hb hb9 x y hx hy t1 t2 h30 h37 o30 o37 hT30 hT37 hs0) (fun v nw G hR hG => by
    obtain ⟨D, u1, u2, o30', o37', ext, rfl, rfl, r09, r19, r29, r39, r49⟩ := hR
    exact hG D u1 u2 o30' o37' ext r09 r19 r29 r39 r49)
set_option maxRecDepth 100000 in
set_option maxHeartbeats 4000000 in
theorem idm1 {w : World} {news T0 : Led} (x : Int) (bv : Nat) (ha : x.natAbs < 2 ^ 59) (hb : 0 < bv) (hb9 : bv < 65536) (y : Int) (hy : y = (bv : Int)) (t1 t2 : Tok) (h30 : ∀ p ∈ news, p.1 ≠ 44) (h37 : ∀ p ∈ news, p.1 ≠ 51) (o30 o37 : Obj) (hT30 : Tab30 o30 T0) (hT37 : Tab37 o37 T0) (hs0 : ∀ p ∈ T0, p ∈ news) :
   CS K03 P03 w H03 70 440 4400 ((44, o30) :: (51, o37) :: news) [.int x t1, .int y t2] (DmPost news T0 x y) := by
  by_cases hx : 0 ≤ x
  · intro p loose mean mg mb dp un gd cn cs L a ccd cl outer A₀ base h₀ m s Q E B F X N T hH hcs hdp hun hret
    exact (idm0 x.toNat bv (by omega) hb hb9 x y (by omega) hy t1 t2 h30 h37 o30 o37 hT30 hT37 hs0).use B F X N T hH hcs (by omega) (by omega) hret
  subst hy
  have hlaw : (fun (_ : OpenLaw) (_ : Params → Frag) => True) Challenge.rw_pg0168_03 hd.heap_39 := by k_fill; exact True.intro
  clear hlaw
  intro p loose mean mg mb dp un gd cn cs L a ccd cl outer A₀ base h₀ m s Q E B F X N T hH hcs hdp hun hret
  obtain ⟨ck, cnm, cg, cc, cm⟩ := cs
  obtain rfl : ck = .function := hcs
  obtain ⟨hH1, hH2⟩ := hH
  replace X : (hd.heap_39 w.params).In h₀ := X
  refine wpAny_call ?_
  k_dflt k_enter
  (with_reducible rename Fr _ _ _ _ => lF0)
  refine frGen2 lF0 (a := PySem.Str.ofString "a") (b := PySem.Str.ofString "b") (by with_unfolding_all rfl) (by with_unfolding_all rfl) ?_
  clear lF0
  intro m0 lF0
  (repeat' ((fail_if_success (first | (with_reducible show wpAny _ _ (call (Value.ref _) _) _ _ _) | (with_reducible show wpAny _ _ (pyIter _) _ _ _) | (with_reducible show UnrPost _ _ _ _ _ _ _ _ _))); first | (k_unfold; (try dsimp only)) | (k_end; wrow_close) | ((with_reducible show ite _ _ _); refine ite_pos (by first | omega | (simp only [beq_iff_eq, bne_iff_ne, decide_eq_true_eq, Int.not_lt, Int.not_le]; omega)) ?_) | ((with_reducible show ite _ _ _); refine ite_neg (by first | omega | (simp only [beq_iff_eq, bne_iff_ne, decide_eq_true_eq, Int.not_lt, Int.not_le]; omega)) ?_) | ((with_reducible show wpAny _ _ (callWith _ (Value.ref _) _ _ _) _ _ _); (k_here; (k_dflt (refine' callWith_K ?k1 ?k2 ?_; (case k1 => k_asm); (case k2 => k_is); k_whole)))) | ((with_reducible show wpAny _ _ (eval (PySem.Expr.Name _ _) (envOf _ _ _ _ _)) _ _ _); k_dflt (refine' nameX_L ?F ?v ?_ ?a ?b; (case F => k_asm); (case a => rfl); (case b => rfl); (case v => rfl); k_whole)) | walk1 | (dsimp only; walk1) | (leave1; walk_say "STEP leave1"; try dsimp only)))
  refine' ((idm0W (w := w) (T0 := T0) (-x - 1).toNat bv (by omega) hb hb9 _ _ ?hx rfl) _ _ h30 h37 o30 o37 hT30 hT37 hs0).use (K := K03) ?B ?F ?X ?N ?T ⟨hH1, hH2⟩ rfl ?hd ?hu ?_
  case N => k_asm
  case B => k_asm
  case F => k_asm
  case X => k_asm
  case T => k_asm
  case hd => ktr_room
  case hu => ktr_units
  case hx => show Builtin.bitNot x = _; unfold Builtin.bitNot; omega
  intro D u1 u2 o30' o37' ext T30' T37' l1 l2 l3 h1 tk1 F1 N1
  (repeat' ((fail_if_success (first | (with_reducible show wpAny _ _ (call (Value.ref _) _) _ _ _) | (with_reducible show wpAny _ _ (pyIter _) _ _ _) | (with_reducible show UnrPost _ _ _ _ _ _ _ _ _))); first | (k_unfold; (try dsimp only)) | (k_end; wrow_close) | ((with_reducible show wpAny _ _ (newTuple _) _ _ _); (k_dflt (refine' kup_newTuple ?gF9 ?gN9 ?_ ?gz9; (case gF9 => k_asm); (case gN9 => k_asm); (case gz9 => exact Nat.le_of_ble_eq_true rfl)); intro _ _ _ _; walk_at "MINE ltI")) | ((with_reducible show wpAny _ _ (eval (PySem.Expr.Name _ _) (envOf _ _ _ _ _)) _ _ _); k_dflt (refine' nameX_L ?F ?v ?_ ?a ?b; (case F => k_asm); (case a => rfl); (case b => rfl); (case v => rfl); k_whole)) | ((with_reducible show wpAny _ _ (storeName _ _ _) _ _ _); k_dflt (refine' storeX_L ?F ?N ?_ ?a ?b; (case F => k_asm); (case N => k_asm); (case a => rfl); (case b => rfl); k_whole; intro _ _ _; (try k_sweep))) | walk1 | (dsimp only; walk1) | (leave1; walk_say "STEP leave1"; try dsimp only)))
  (with_reducible rename News _ _ _ _ => kN8)
  (with_reducible rename AllLt _ _ => zl)
  exact hret _ _ _ _ (by k_asm) (newsSub kN8 dropLed) ⟨_, _, _, o30', o37', ext, rfl, tupII (not1 x bv hb).1 (not1 x bv hb).2, T30', T37', fun z hz => allLt_mem zl z (List.mem_append.mpr (.inr hz)), by k_asm, l3⟩
theorem idm1W {w : World} {news T0 : Led} (x : Int) (bv : Nat) (ha : x.natAbs < 2 ^ 59) (hb : 0 < bv) (hb9 : bv < 65536) (y : Int) (hy : y = (bv : Int)) (t1 t2 : Tok) (h30 : ∀ p ∈ news, p.1 ≠ 44) (h37 : ∀ p ∈ news, p.1 ≠ 51) (o30 o37 : Obj) (hT30 : Tab30 o30 T0) (hT37 : Tab37 o37 T0) (hs0 : ∀ p ∈ T0, p ∈ news) :
   CW K03 P03 w H03 70 440 4400 ((44, o30) :: (51, o37) :: news) [.int x t1, .int y t2] (fun G => ∀ D u1 u2 o30' o37' ext, (Tab30 o30' (ext ++ T0)) → (Tab37 o37' (ext ++ T0)) → ((∀ q ∈ news, q.1 < D)) → (51 < D) → (∀ q ∈ ext, (∀ p ∈ news, p.1 < q.1) ∧ 51 < q.1) → G (.ref D) ((D, tup [.int (x.fdiv y) u1, .int (x.fmod y) u2]) :: (44, o30') :: (51, o37') :: (ext ++ news))) :=
  CS.toW (@idm1 w news T0 x bv ha hb hb9 y hy t1 t2 h30 h37 o30 o37 hT30 hT37 hs0) (fun v nw G hR hG => by
    obtain ⟨D, u1, u2, o30', o37', ext, rfl, rfl, r09, r19, r29, r39, r49⟩ := hR
    exact hG D u1 u2 o30' o37' ext r09 r19 r29 r39 r49)
set_option compiler.extract_closed false
set_option maxRecDepth 100000 in
set_option maxHeartbeats 4000000 in
theorem repG {w : World} {news : Led} (q : RPr) (r : List RPr) (x : PySem.Str) (hx : RepOk (q :: r) x) (hl : (q :: r).length ≤ 40) (tx : Tok) :
   CS K03 P03 w H03 77 30 300 news (.str x tx :: flatP (q :: r)) fun v nw => ∃ y t, v = .str y t ∧ nw = news ∧ y.cps.toList = repF (q :: r) x.cps.toList := by
  have hlaw : (fun (_ : OpenLaw) (_ : Params → Frag) => True) Challenge.rw_pg0168_03 hd.heap_39 := by k_fill; exact True.intro
  clear hlaw
  intro p loose mean mg mb dp un gd cn cs L a ccd cl outer A₀ base h₀ m s Q E B F X N T hH hcs hdp hun hret
  obtain ⟨ck, cnm, cg, cc, cm⟩ := cs
  obtain rfl : ck = .function := hcs
  obtain ⟨hH1, hH2⟩ := hH
  replace X : (hd.heap_39 w.params).In h₀ := X
  refine wpAny_call ?_
  k_dflt (refine' kp_rest ?k1 ?k2 ?k3 ?k4 ?k5 ?kA ?kF ?kK ?k6 ?k7 ?k8 ?kV ?kP ?kG ?kB ?_ ?c2 ?c3 ?c4 ?c5; (case kA => exact rfl); (case kF => exact rfl); (case kK => exact rfl); (case k1 => k_asm); (case k2 => k_asm); (case k3 => k_asm); (case k4 => k_asm); (case k5 => k_asm); (case k6 => k_is); (case k7 => k_is); (case k8 => k_room); (case kV => exact rfl); (case kP => exact bind_rest (by rw [List.length_cons, flatP_length]; have := hl; rw [List.length_cons] at this; omega)); (case kG => exact fun _ => rfl); (case kB => exact fun _ => locs rfl); (case c5 => decide); (case c2 => exact rfl); (case c3 => exact rfl); (case c4 => exact rfl); k_whole; intro T g1 L1 hA l1 FG1 F1 N1 B1 X1 T1; (try k_lt l1); (try dsimp only); (try k_lift B1); (try k_fold))
  (repeat' ((fail_if_success (first | (with_reducible show wpAny _ _ (call (Value.ref _) _) _ _ _) | (with_reducible show wpAny _ _ (pyIter _) _ _ _) | (with_reducible show UnrPost _ _ _ _ _ _ _ _ _) | (with_reducible show wpAny _ _ (exec (Stmt.Assign _ (PySem.Expr.ListComp _ _ _ _) _) _) _ _ _) | (with_reducible show wpAny _ _ (eval (PySem.Expr.ListComp _ _ _ _) _) _ _ _) | (with_reducible show wpAny _ _ (call (Value.type "zip") _) _ _ _) | (with_reducible show MEnd _ _ _ _ _ _ _ _ _ _ _ _ _) | (with_reducible show wpAny _ _ (exec (Stmt.For _ _ _ _ _) _) _ _ _) | (with_reducible show wpAny _ _ (exec (Stmt.While _ _ _ _) _) _ _ _) | (with_reducible show wpAny _ _ (eval (PySem.Expr.IfExp _ _ _ _) _) _ _ _))); first | (k_unfold; (try dsimp only)) | (k_end; wrow_close) | walk1 | (dsimp only; walk1) | (leave1; walk_say "STEP leave1"; try dsimp only)))
  refine WhileStartQ (n := (q :: r).length) (RepP news (repF (q :: r) x.cps.toList)) (RepX news (repF (q :: r) x.cps.toList)) ?pe F1 (newsSub (T := (T, ({ cls := .type "tuple", data := .seq (flatP (q :: r)).toArray } : Obj)) :: news) N1 (fun _ h => h)) ?start ?turn ?done
  case pe => first | passes_own | with_unfolding_all passes_own
  case start => exact fun _ k => k (q :: r) x tx T rfl hl rfl rfl hx rfl (fun z hz => Nat.ne_of_lt (allLt_mem l1 z hz))
  case done =>
    intro m nw hRx
    apply hRx
    clear hRx
    intro y ty e1 hy h9 tk9 F9 N9
    rw [mx1 e1] at F9
    (repeat' ((fail_if_success (first | (with_reducible show wpAny _ _ (call (Value.ref _) _) _ _ _) | (with_reducible show wpAny _ _ (pyIter _) _ _ _) | (with_reducible show UnrPost _ _ _ _ _ _ _ _ _) | (with_reducible show wpAny _ _ (exec (Stmt.Assign _ (PySem.Expr.ListComp _ _ _ _) _) _) _ _ _) | (with_reducible show wpAny _ _ (eval (PySem.Expr.ListComp _ _ _ _) _) _ _ _) | (with_reducible show wpAny _ _ (call (Value.type "zip") _) _ _ _) | (with_reducible show MEnd _ _ _ _ _ _ _ _ _ _ _ _ _) | (with_reducible show wpAny _ _ (exec (Stmt.For _ _ _ _ _) _) _ _ _) | (with_reducible show wpAny _ _ (exec (Stmt.While _ _ _ _) _) _ _ _) | (with_reducible show wpAny _ _ (eval (PySem.Expr.IfExp _ _ _ _) _) _ _ _))); first | (k_unfold; (try dsimp only)) | (k_end; wrow_close) | ((with_reducible show wpAny _ _ (eval (PySem.Expr.Name _ _) (envOf _ _ _ _ _)) _ _ _); k_dflt (refine' nameX_L ?F ?v ?_ ?a ?b; (case F => k_asm); (case a => rfl); (case b => rfl); (case v => rfl); k_whole)) | walk1 | (dsimp only; walk1) | (leave1; walk_say "STEP leave1"; try dsimp only)))
    exact hret _ _ _ _ (by k_asm) (by k_asm) ⟨_, _, rfl, rfl, hy⟩
  case turn =>
    intro n m nw hP
    apply hP
    clear hP
    intro ps y ty T hn hpl e1 e2 hok hR hT h9 tk9 Q9 Qn9 E9 hU hUn F9 N9
    rw [mx2 e1 e2] at F9
    cases ps with
    | nil =>
      (repeat' ((fail_if_success (first | (with_reducible show wpAny _ _ (call (Value.ref _) _) _ _ _) | (with_reducible show wpAny _ _ (pyIter _) _ _ _) | (with_reducible show UnrPost _ _ _ _ _ _ _ _ _) | (with_reducible show wpAny _ _ (exec (Stmt.Assign _ (PySem.Expr.ListComp _ _ _ _) _) _) _ _ _) | (with_reducible show wpAny _ _ (eval (PySem.Expr.ListComp _ _ _ _) _) _ _ _) | (with_reducible show wpAny _ _ (call (Value.type "zip") _) _ _ _) | (with_reducible show MEnd _ _ _ _ _ _ _ _ _ _ _ _ _) | (with_reducible show wpAny _ _ (exec (Stmt.For _ _ _ _ _) _) _ _ _) | (with_reducible show wpAny _ _ (exec (Stmt.While _ _ _ _) _) _ _ _) | (with_reducible show wpAny _ _ (eval (PySem.Expr.IfExp _ _ _ _) _) _ _ _))); first | (k_unfold; (try dsimp only)) | (k_end; wrow_close) | ((with_reducible show wpAny _ _ (eval (PySem.Expr.Name _ _) (envOf _ _ _ _ _)) _ _ _); k_dflt (refine' nameX_L ?F ?v ?_ ?a ?b; (case F => k_asm); (case a => rfl); (case b => rfl); (case v => rfl); k_whole)) | walk1 | (dsimp only; walk1) | (leave1; walk_say "STEP leave1"; try dsimp only)))
      exact hUn (by k_asm) (by k_asm) news (by (repeat' first | exact List.forall_mem_nil _ | refine FMC.all ⟨by k_mem, ?_⟩ | (intro p9 hp9; (repeat' first | assumption | refine List.Mem.tail _ ?_)))) (fun _ k => k _ _ rfl hR)
    | cons p r =>
      (repeat' ((fail_if_success (first | (with_reducible show wpAny _ _ (call (Value.ref _) _) _ _ _) | (with_reducible show wpAny _ _ (pyIter _) _ _ _) | (with_reducible show UnrPost _ _ _ _ _ _ _ _ _) | (with_reducible show wpAny _ _ (exec (Stmt.Assign _ (PySem.Expr.ListComp _ _ _ _) _) _) _ _ _) | (with_reducible show wpAny _ _ (eval (PySem.Expr.ListComp _ _ _ _) _) _ _ _) | (with_reducible show wpAny _ _ (call (Value.type "zip") _) _ _ _) | (with_reducible show MEnd _ _ _ _ _ _ _ _ _ _ _ _ _) | (with_reducible show wpAny _ _ (exec (Stmt.For _ _ _ _ _) _) _ _ _) | (with_reducible show wpAny _ _ (exec (Stmt.While _ _ _ _) _) _ _ _) | (with_reducible show wpAny _ _ (eval (PySem.Expr.IfExp _ _ _ _) _) _ _ _))); first | (k_unfold; (try dsimp only)) | (k_end; wrow_close) | ((with_reducible show wpAny _ _ (eval (PySem.Expr.Name _ _) (envOf _ _ _ _ _)) _ _ _); k_dflt (refine' nameX_L ?F ?v ?_ ?a ?b; (case F => k_asm); (case a => rfl); (case b => rfl); (case v => rfl); k_whole)) | walk1 | (dsimp only; walk1) | (leave1; walk_say "STEP leave1"; try dsimp only)))
      have hz : (flatP (p :: r)).length ≤ 1000 := by rw [flatP_length]; omega
      simp only [flatP] at N9 hz
      k_dflt (refine' ktl_truthyK ?tN ?tm ?tz ?_; (case tN => k_asm); (case tm => exact .head _); (case tz => exact hz))
      refine WhlIf.yes rfl ?_
      obtain ⟨o1, o2, o3, o4, o5⟩ := hok
      (repeat' ((fail_if_success (first | (with_reducible show wpAny _ _ (call (Value.ref _) _) _ _ _) | (with_reducible show wpAny _ _ (pyIter _) _ _ _) | (with_reducible show UnrPost _ _ _ _ _ _ _ _ _) | (with_reducible show wpAny _ _ (exec (Stmt.Assign _ (PySem.Expr.ListComp _ _ _ _) _) _) _ _ _) | (with_reducible show wpAny _ _ (eval (PySem.Expr.ListComp _ _ _ _) _) _ _ _) | (with_reducible show wpAny _ _ (call (Value.type "zip") _) _ _ _) | (with_reducible show MEnd _ _ _ _ _ _ _ _ _ _ _ _ _) | (with_reducible show wpAny _ _ (exec (Stmt.For _ _ _ _ _) _) _ _ _) | (with_reducible show wpAny _ _ (exec (Stmt.While _ _ _ _) _) _ _ _) | (with_reducible show wpAny _ _ (eval (PySem.Expr.IfExp _ _ _ _) _) _ _ _))); first | (k_unfold; (try dsimp only)) | (k_end; wrow_close) | ((with_reducible show wpAny _ _ (subscriptTail _ _ (Value.ref _) (Value.int _ _)) _ _ _); refine' item_tupleT ?gt ?ga ?gb ?gc ?gd ?_; (case gt => exact News.isTup (by k_asm) (by k_mem)); (case ga => decide); (case gb => decide); (case gc => first | exact seqIx0 _ | exact seqIx1 _); (case gd => rfl)) | ((with_reducible show wpAny _ _ (call (Value.builtin "str.join") _) _ _ _); (refine' my_join ?gN ?gm ?ge ?gy ?gk ?gx ?gz ?_); (case gN => k_asm); (case gm => k_mem); (case ge => with_reducible assumption); (case gy => with_reducible assumption); (case gk => with_reducible assumption); (case gx => omega); (case gz => with_reducible assumption); intro _ _ _ _) | ((with_reducible show wpAny _ _ (call (Value.builtin "str.split") _) _ _ _); (refine' KSpl.split1 ?gF ?gN ?gy ?_ ?gz); (case gF => k_asm); (case gN => k_asm); (case gy => exact len_ne0 (by with_reducible assumption)); (case gz => rw [sizeLine_eq]; omega); intro _ _ _ _ _ _ _ _; walk_at "MINE ltI") | ((with_reducible show wpAny _ _ (subscriptTail _ (PySem.Expr.Slice (some _) none none _) (Value.ref _) (Value.ref _)) _ _ _); (refine' my_tupfrom (a := 2) ?gF ?gN ?gt ?g1 ?ga ?_ ?gs ?gg ?gz); (case gF => k_asm); (case gN => k_asm); (case gt => k_mem); (case g1 => decide); (case ga => exact Nat.le_add_left 2 _); (case gs => with_unfolding_all rfl); (case gg => (intro _; with_unfolding_all rfl)); (case gz => with_reducible assumption); intro _ _ _ N'; walk_at "MINE ltI"; (try simp only [List.drop_succ_cons, List.drop_zero] at N')) | ((with_reducible show wpAny _ _ (eval (PySem.Expr.Name _ _) (envOf _ _ _ _ _)) _ _ _); k_dflt (refine' nameX_L ?F ?v ?_ ?a ?b; (case F => k_asm); (case a => rfl); (case b => rfl); (case v => rfl); k_whole)) | ((with_reducible show wpAny _ _ (storeName _ _ _) _ _ _); k_dflt (refine' storeX_L ?F ?N ?_ ?a ?b; (case F => k_asm); (case N => k_asm); (case a => rfl); (case b => rfl); k_whole; intro _ _ _; (try k_sweep))) | walk1 | (dsimp only; walk1) | (leave1; walk_say "STEP leave1"; try dsimp only)))
      refine hU (by k_asm) (by k_asm) ((_, ({ cls := .type "tuple", data := .seq (flatP r).toArray } : Obj)) :: news) (by (repeat' first | exact List.forall_mem_nil _ | refine FMC.all ⟨by k_mem, ?_⟩ | (intro p9 hp9; (repeat' first | assumption | refine List.Mem.tail _ ?_)))) ⟨r.length, hn ▸ Nat.lt_succ_self _, fun _ k => k r _ _ _ rfl (Nat.le_of_succ_le hpl) rfl rfl (o5 _ (by assumption)) ((congrArg (repF r) (by assumption)).trans hR) (fun z hz => Nat.ne_of_lt (allLt_mem (by assumption) z hz))⟩
theorem repGW {w : World} {news : Led} (q : RPr) (r : List RPr) (x : PySem.Str) (hx : RepOk (q :: r) x) (hl : (q :: r).length ≤ 40) (tx : Tok) :
   CW K03 P03 w H03 77 30 300 news (.str x tx :: flatP (q :: r)) (fun G => ∀ y t, (y.cps.toList = repF (q :: r) x.cps.toList) → G (.str y t) (news)) :=
  CS.toW (@repG w news q r x hx hl tx) (fun v nw G hR hG => by
    obtain ⟨y, t, rfl, rfl, r09⟩ := hR
    exact hG y t r09)
set_option compiler.extract_closed false
set_option maxRecDepth 100000 in
set_option maxHeartbeats 4000000 in
theorem mixT {w : World} {news : Led} (i j : Nat) (hi : i < 3) (hj : j < 3) (a b : Addr) (t u v t' u' v' : Tok) (ha : (a, colO i t u v) ∈ news) (hb : (b, colO j t' u' v') ∈ news) (ok : TokOk i j t u v t' u' v') :
   CT K03 P03 w H03 89 30 300 news [.ref a, .ref b] (fun lo G => ∀ hi D x y z, lo ≤ hi → (lo ≤ x ∧ x < hi) → (lo ≤ y ∧ y < hi) → (lo ≤ z ∧ z < hi) → (∀ q ∈ news, q.1 < D) → G hi (.ref D) ((D, colO (mixK i j) x y z) :: news)) := by
  have hlaw : (fun (_ : OpenLaw) (_ : Params → Frag) => True) Challenge.rw_pg0168_03 hd.heap_39 := by k_fill; exact True.intro
  clear hlaw
  intro p loose mean mg mb dp un gd cn cs L a9 ccd cl outer A₀ base h₀ m s Q E B F X N T hH hcs hdp hun hret
  obtain ⟨ck, cnm, cg, cc, cm⟩ := cs
  obtain rfl : ck = .function := hcs
  obtain ⟨hH1, hH2⟩ := hH
  replace X : (hd.heap_39 w.params).In h₀ := X
  refine wpAny_call ?_
  k_dflt k_enter
  (with_reducible rename Fr _ _ _ _ => lF0)
  refine frGen2 lF0 (a := PySem.Str.ofString "one") (b := PySem.Str.ofString "other") (by with_unfolding_all rfl) (by with_unfolding_all rfl) ?_
  clear lF0
  intro m0 lF0
  have hc6 := mixIx_lt hi hj
  (repeat' ((fail_if_success (first | (with_reducible show wpAny _ _ (call (Value.ref _) _) _ _ _) | (with_reducible show wpAny _ _ (pyIter _) _ _ _) | (with_reducible show UnrPost _ _ _ _ _ _ _ _ _) | (with_reducible show wpAny _ _ (exec (Stmt.Assign _ (PySem.Expr.ListComp _ _ _ _) _) _) _ _ _) | (with_reducible show wpAny _ _ (eval (PySem.Expr.ListComp _ _ _ _) _) _ _ _) | (with_reducible show wpAny _ _ (call (Value.type "zip") _) _ _ _) | (with_reducible show MEnd _ _ _ _ _ _ _ _ _ _ _ _ _) | (with_reducible show wpAny _ _ (exec (Stmt.For _ _ _ _ _) _) _ _ _) | (with_reducible show wpAny _ _ (exec (Stmt.While _ _ _ _) _) _ _ _) | (with_reducible show wpAny _ _ (eval (PySem.Expr.IfExp _ _ _ _) _) _ _ _) | (with_reducible show wpAny _ _ (compareOp .Eq (Value.ref _) (Value.ref _)) _ _ _))); first | (k_unfold; (try dsimp only)) | (k_end; wrow_close) | walk1 | (dsimp only; walk1) | (leave1; walk_say "STEP leave1"; try dsimp only)))
  (k_dflt (refine mc_List (ct := none) (by k_asm) (by with_unfolding_all rfl) (by decide) (by rfl) (by decide) (by rfl) (by rfl) (by decide) ?_))
  (repeat' ((fail_if_success (first | (with_reducible show wpAny _ _ (call (Value.ref _) _) _ _ _) | (with_reducible show wpAny _ _ (pyIter _) _ _ _) | (with_reducible show UnrPost _ _ _ _ _ _ _ _ _) | (with_reducible show wpAny _ _ (exec (Stmt.Assign _ (PySem.Expr.ListComp _ _ _ _) _) _) _ _ _) | (with_reducible show wpAny _ _ (eval (PySem.Expr.ListComp _ _ _ _) _) _ _ _) | (with_reducible show wpAny _ _ (call (Value.type "zip") _) _ _ _) | (with_reducible show MEnd _ _ _ _ _ _ _ _ _ _ _ _ _) | (with_reducible show wpAny _ _ (exec (Stmt.For _ _ _ _ _) _) _ _ _) | (with_reducible show wpAny _ _ (exec (Stmt.While _ _ _ _) _) _ _ _) | (with_reducible show wpAny _ _ (eval (PySem.Expr.IfExp _ _ _ _) _) _ _ _) | (with_reducible show wpAny _ _ (compareOp .Eq (Value.ref _) (Value.ref _)) _ _ _))); first | (k_unfold; (try dsimp only)) | (k_end; wrow_close) | ((with_reducible show wpAny _ _ (eval (PySem.Expr.Name _ _) (envOf _ _ _ _ _)) _ _ _); k_dflt (refine' nameX_L ?F ?v ?_ ?a ?b; (case F => k_asm); (case a => rfl); (case b => rfl); (case v => rfl); k_whole)) | walk1 | (dsimp only; walk1) | (leave1; walk_say "STEP leave1"; try dsimp only)))
  refine mc_zip (by rfl) (by k_asm) (by k_asm) (Arm.tuple (a := a) (vs := [.float (rgbOf (2 * i)).1 t, .float (rgbOf (2 * i)).2.1 u, .float (rgbOf (2 * i)).2.2 v]) (n := 0)) (Arm.tuple (a := b) (vs := [.float (rgbOf (2 * j)).1 t', .float (rgbOf (2 * j)).2.1 u', .float (rgbOf (2 * j)).2.2 v']) (n := 0)) (by (repeat' first | exact List.forall_mem_nil _ | refine FMC.all ⟨by k_mem, ?_⟩ | (intro p9 hp9; (repeat' first | assumption | refine List.Mem.tail _ ?_)))) (by (repeat' first | exact List.forall_mem_nil _ | refine FMC.all ⟨by k_mem, ?_⟩ | (intro p9 hp9; (repeat' first | assumption | refine List.Mem.tail _ ?_)))) rfl (Nat.le_of_ble_eq_true rfl) (fun g i0 => ?_)
  refine MRest.gen (fun G => ∀ (n : Nat) (t1 t2 t3 : Tok), (s.toks ≤ t1 ∧ t1 < n) → (s.toks ≤ t2 ∧ t2 < n) → (s.toks ≤ t3 ∧ t3 < n) → G n [.float (mixV (mixIx i j)).1 t1, .float (mixV (mixIx i j)).2.1 t2, .float (mixV (mixIx i j)).2.2 t3]) (fun Fin9 hFin => ?_) ?_
  · walk_at "MINE mcons"
    (with_reducible rename (_ : Nat) ≤ _ => q1)
    replace q1 := Nat.le_trans (Nat.le_add_right s.toks _) q1
    (repeat' ((fail_if_success (first | (with_reducible show wpAny _ _ (call (Value.ref _) _) _ _ _) | (with_reducible show wpAny _ _ (pyIter _) _ _ _) | (with_reducible show UnrPost _ _ _ _ _ _ _ _ _) | (with_reducible show wpAny _ _ (exec (Stmt.Assign _ (PySem.Expr.ListComp _ _ _ _) _) _) _ _ _) | (with_reducible show wpAny _ _ (eval (PySem.Expr.ListComp _ _ _ _) _) _ _ _) | (with_reducible show wpAny _ _ (call (Value.type "zip") _) _ _ _) | (with_reducible show MEnd _ _ _ _ _ _ _ _ _ _ _ _ _) | (with_reducible show wpAny _ _ (exec (Stmt.For _ _ _ _ _) _) _ _ _) | (with_reducible show wpAny _ _ (exec (Stmt.While _ _ _ _) _) _ _ _) | (with_reducible show wpAny _ _ (eval (PySem.Expr.IfExp _ _ _ _) _) _ _ _) | (with_reducible show wpAny _ _ (compareOp .Eq (Value.ref _) (Value.ref _)) _ _ _))); first | (k_unfold; (try dsimp only)) | (k_end; wrow_close) | ((with_reducible show wpAny _ _ (eval (PySem.Expr.Name _ _) (compEnvC _ _ _ _)) _ _ _); k_dflt (refine LCgL.ld_own (by k_asm) (by k_mem) (by assumption) (by assumption) ?_)) | walk1 | (dsimp only; walk1) | (leave1; walk_say "STEP leave1"; try dsimp only)))
    (refine MEnd.intro (by k_asm) (by k_asm) _ (fun p9 hp9 => hp9) (by with_reducible assumption) (by with_reducible assumption) ?gK9 ?_; (case gK9 => ((try simp only [List.cons_append, List.nil_append]); (repeat' first | exact List.forall_mem_nil _ | refine FMC.all ⟨by k_mem, ?_⟩ | (intro p9 hp9; (repeat' first | assumption | refine List.Mem.tail _ ?_))))))
    walk_at "MINE mcons"
    (with_reducible rename (_ : Nat) ≤ _ => q2)
    (repeat' ((fail_if_success (first | (with_reducible show wpAny _ _ (call (Value.ref _) _) _ _ _) | (with_reducible show wpAny _ _ (pyIter _) _ _ _) | (with_reducible show UnrPost _ _ _ _ _ _ _ _ _) | (with_reducible show wpAny _ _ (exec (Stmt.Assign _ (PySem.Expr.ListComp _ _ _ _) _) _) _ _ _) | (with_reducible show wpAny _ _ (eval (PySem.Expr.ListComp _ _ _ _) _) _ _ _) | (with_reducible show wpAny _ _ (call (Value.type "zip") _) _ _ _) | (with_reducible show MEnd _ _ _ _ _ _ _ _ _ _ _ _ _) | (with_reducible show wpAny _ _ (exec (Stmt.For _ _ _ _ _) _) _ _ _) | (with_reducible show wpAny _ _ (exec (Stmt.While _ _ _ _) _) _ _ _) | (with_reducible show wpAny _ _ (eval (PySem.Expr.IfExp _ _ _ _) _) _ _ _) | (with_reducible show wpAny _ _ (compareOp .Eq (Value.ref _) (Value.ref _)) _ _ _))); first | (k_unfold; (try dsimp only)) | (k_end; wrow_close) | ((with_reducible show wpAny _ _ (eval (PySem.Expr.Name _ _) (compEnvC _ _ _ _)) _ _ _); k_dflt (refine LCgL.ld_own (by k_asm) (by k_mem) (by assumption) (by assumption) ?_)) | walk1 | (dsimp only; walk1) | (leave1; walk_say "STEP leave1"; try dsimp only)))
    (refine MEnd.intro (by k_asm) (by k_asm) _ (fun p9 hp9 => hp9) (by with_reducible assumption) (by with_reducible assumption) ?gK9 ?_; (case gK9 => ((try simp only [List.cons_append, List.nil_append]); (repeat' first | exact List.forall_mem_nil _ | refine FMC.all ⟨by k_mem, ?_⟩ | (intro p9 hp9; (repeat' first | assumption | refine List.Mem.tail _ ?_))))))
    walk_at "MINE mcons"
    (with_reducible rename (_ : Nat) ≤ _ => q3)
    (repeat' ((fail_if_success (first | (with_reducible show wpAny _ _ (call (Value.ref _) _) _ _ _) | (with_reducible show wpAny _ _ (pyIter _) _ _ _) | (with_reducible show UnrPost _ _ _ _ _ _ _ _ _) | (with_reducible show wpAny _ _ (exec (Stmt.Assign _ (PySem.Expr.ListComp _ _ _ _) _) _) _ _ _) | (with_reducible show wpAny _ _ (eval (PySem.Expr.ListComp _ _ _ _) _) _ _ _) | (with_reducible show wpAny _ _ (call (Value.type "zip") _) _ _ _) | (with_reducible show MEnd _ _ _ _ _ _ _ _ _ _ _ _ _) | (with_reducible show wpAny _ _ (exec (Stmt.For _ _ _ _ _) _) _ _ _) | (with_reducible show wpAny _ _ (exec (Stmt.While _ _ _ _) _) _ _ _) | (with_reducible show wpAny _ _ (eval (PySem.Expr.IfExp _ _ _ _) _) _ _ _) | (with_reducible show wpAny _ _ (compareOp .Eq (Value.ref _) (Value.ref _)) _ _ _))); first | (k_unfold; (try dsimp only)) | (k_end; wrow_close) | ((with_reducible show wpAny _ _ (eval (PySem.Expr.Name _ _) (compEnvC _ _ _ _)) _ _ _); k_dflt (refine LCgL.ld_own (by k_asm) (by k_mem) (by assumption) (by assumption) ?_)) | walk1 | (dsimp only; walk1) | (leave1; walk_say "STEP leave1"; try dsimp only)))
    (refine MEnd.intro (by k_asm) (by k_asm) _ (fun p9 hp9 => hp9) (by with_reducible assumption) (by with_reducible assumption) ?gK9 ?_; (case gK9 => ((try simp only [List.cons_append, List.nil_append]); (repeat' first | exact List.forall_mem_nil _ | refine FMC.all ⟨by k_mem, ?_⟩ | (intro p9 hp9; (repeat' first | assumption | refine List.Mem.tail _ ?_))))))
    refine MRest.nil ?_
    rw [mix_add1 hi hj, mix_add2 hi hj, mix_add3 hi hj]
    exact hFin _ _ _ _ ⟨q1, Nat.lt_succ_of_lt (Nat.lt_trans q2 q3)⟩ ⟨Nat.le_trans q1 (Nat.le_of_lt q2), Nat.lt_succ_of_lt q3⟩ ⟨Nat.le_trans q1 (Nat.le_of_lt (Nat.lt_trans q2 q3)), Nat.lt_succ_self _⟩
  intro n t1 t2 t3 g1 g2 g3
  intro D3 h3 tk3 q3 F3 N3 ne3 lt3
  k_lt lt3
  (repeat' ((fail_if_success (first | (with_reducible show wpAny _ _ (call (Value.ref _) _) _ _ _) | (with_reducible show wpAny _ _ (pyIter _) _ _ _) | (with_reducible show UnrPost _ _ _ _ _ _ _ _ _) | (with_reducible show wpAny _ _ (exec (Stmt.Assign _ (PySem.Expr.ListComp _ _ _ _) _) _) _ _ _) | (with_reducible show wpAny _ _ (eval (PySem.Expr.ListComp _ _ _ _) _) _ _ _) | (with_reducible show wpAny _ _ (call (Value.type "zip") _) _ _ _) | (with_reducible show MEnd _ _ _ _ _ _ _ _ _ _ _ _ _) | (with_reducible show wpAny _ _ (exec (Stmt.For _ _ _ _ _) _) _ _ _) | (with_reducible show wpAny _ _ (exec (Stmt.While _ _ _ _) _) _ _ _) | (with_reducible show wpAny _ _ (eval (PySem.Expr.IfExp _ _ _ _) _) _ _ _) | (with_reducible show wpAny _ _ (compareOp .Eq (Value.ref _) (Value.ref _)) _ _ _))); first | (k_unfold; (try dsimp only)) | (k_end; wrow_close) | walk1 | (dsimp only; walk1) | (leave1; walk_say "STEP leave1"; try dsimp only)))
  refine wpAny_grow ?_
  refine' (rgbF (w := w) _ hc6 _ _ _).use (K := K03) ?B1 ?F1 ?X1 ?N1 ?T1 ⟨hH1, hH2⟩ rfl ?hd1 ?hu1 ?_
  case N1 => k_asm
  case B1 => k_asm
  case F1 => k_asm
  case X1 => k_asm
  case T1 => k_asm
  case hd1 => ktr_room
  case hu1 => ktr_units
  intro D4 u1 u2 u3 hu3 l4 h4 tk4 F4 N4 q4
  k_lt l4
  dsimp only at q4
  have q5 : s.toks ≤ u3 ∧ u3 < tk4 := by
    rcases hu3 with rfl | rfl | rfl
    · exact ⟨g1.1, Nat.lt_of_lt_of_le g1.2 (Nat.le_trans q3 q4)⟩
    · exact ⟨g2.1, Nat.lt_of_lt_of_le g2.2 (Nat.le_trans q3 q4)⟩
    · exact ⟨g3.1, Nat.lt_of_lt_of_le g3.2 (Nat.le_trans q3 q4)⟩
  clear g1 g2 g3 hu3 q3 q4
  have hX9 := mix_six hi hj
  have hk9 : 2 * mixK i j < 6 := by have := mixK_lt hi hj; omega
  (repeat' ((fail_if_success (first | (with_reducible show wpAny _ _ (call (Value.ref _) _) _ _ _) | (with_reducible show wpAny _ _ (pyIter _) _ _ _) | (with_reducible show UnrPost _ _ _ _ _ _ _ _ _) | (with_reducible show wpAny _ _ (exec (Stmt.Assign _ (PySem.Expr.ListComp _ _ _ _) _) _) _ _ _) | (with_reducible show wpAny _ _ (eval (PySem.Expr.ListComp _ _ _ _) _) _ _ _) | (with_reducible show wpAny _ _ (call (Value.type "zip") _) _ _ _) | (with_reducible show MEnd _ _ _ _ _ _ _ _ _ _ _ _ _) | (with_reducible show wpAny _ _ (exec (Stmt.For _ _ _ _ _) _) _ _ _) | (with_reducible show wpAny _ _ (exec (Stmt.While _ _ _ _) _) _ _ _) | (with_reducible show wpAny _ _ (eval (PySem.Expr.IfExp _ _ _ _) _) _ _ _) | (with_reducible show wpAny _ _ (compareOp .Eq (Value.ref _) (Value.ref _)) _ _ _))); first | (k_unfold; (try dsimp only)) | (k_end; wrow_close) | ((with_reducible show wpAny _ _ (call (Value.type "int") [(Value.float _ _)]) _ _ _); refine my_int_mix ?hk9 ?_; (case hk9 => with_reducible assumption)) | ((with_reducible show wpAny _ _ (execs (_ :: _) _) _ _ _); (with_reducible refine wpAny_execs_cons ?_); try dsimp only) | ((with_reducible show wpAny _ _ (binaryOp .Div (Value.int _ _) (Value.int _ _)) _ _ _); (refine' my_div6 ?hX9 ?hk9 ?_); (case hX9 => with_reducible assumption); (case hk9 => with_reducible assumption)) | ((with_reducible show wpAny _ _ (callWith _ (Value.ref _) _ _ _) _ _ _); (k_here; (k_dflt (refine' callWith_K ?k1 ?k2 ?_; (case k1 => k_asm); (case k2 => k_is); k_whole)))) | ((with_reducible show wpAny _ _ (eval (PySem.Expr.Name _ _) (envOf _ _ _ _ _)) _ _ _); k_dflt (refine' nameX_L ?F ?v ?_ ?a ?b; (case F => k_asm); (case a => rfl); (case b => rfl); (case v => rfl); k_whole)) | ((with_reducible show wpAny _ _ (storeName _ _ _) _ _ _); k_dflt (refine' storeX_L ?F ?N ?_ ?a ?b; (case F => k_asm); (case N => k_asm); (case a => rfl); (case b => rfl); k_whole; intro _ _ _; (try k_sweep))) | walk1 | (dsimp only; walk1) | (leave1; walk_say "STEP leave1"; try dsimp only)))
  refine step_frameT (by k_asm) (by k_asm) (fun G => ∀ tk t9, (s.toks ≤ t9 ∧ t9 < tk) → G tk (.float f1 t9)) (fun Q' hQ' => ?_) ?_
  · by_cases hij : i = j
    · walk1
      (repeat' ((fail_if_success (first | (with_reducible show wpAny _ _ (call (Value.ref _) _) _ _ _) | (with_reducible show wpAny _ _ (pyIter _) _ _ _) | (with_reducible show UnrPost _ _ _ _ _ _ _ _ _) | (with_reducible show wpAny _ _ (exec (Stmt.Assign _ (PySem.Expr.ListComp _ _ _ _) _) _) _ _ _) | (with_reducible show wpAny _ _ (eval (PySem.Expr.ListComp _ _ _ _) _) _ _ _) | (with_reducible show wpAny _ _ (call (Value.type "zip") _) _ _ _) | (with_reducible show MEnd _ _ _ _ _ _ _ _ _ _ _ _ _) | (with_reducible show wpAny _ _ (exec (Stmt.For _ _ _ _ _) _) _ _ _) | (with_reducible show wpAny _ _ (exec (Stmt.While _ _ _ _) _) _ _ _) | (with_reducible show wpAny _ _ (eval (PySem.Expr.IfExp _ _ _ _) _) _ _ _) | (with_reducible show wpAny _ _ (compareOp .Eq (Value.ref _) (Value.ref _)) _ _ _))); first | (k_unfold; (try dsimp only)) | (k_end; wrow_close) | ((with_reducible show wpAny _ _ (eval (PySem.Expr.Name _ _) (envOf _ _ _ _ _)) _ _ _); k_dflt (refine' nameX_L ?F ?v ?_ ?a ?b; (case F => k_asm); (case a => rfl); (case b => rfl); (case v => rfl); k_whole)) | walk1 | (dsimp only; walk1) | (leave1; walk_say "STEP leave1"; try dsimp only)))
      refine eq_col (K := hd.heap_39 w.params) (Frag.In.keeps (by k_asm) (Fr.keep (by k_asm))) (by rfl) (by k_asm) (by (repeat' first | exact List.Mem.head _ | assumption | refine List.Mem.tail _ ?_)) (by (repeat' first | exact List.Mem.head _ | assumption | refine List.Mem.tail _ ?_)) hi hj ok (by ke_room) ?_
      rw [decide_eq_true hij]
      have hm := mix_max hi hj
      rw [if_pos hij] at hm
      (with_reducible rename Fr _ _ _ _ => lF7)
      have lF8 := lF7
      rw [hm] at lF8
      (repeat' ((fail_if_success (first | (with_reducible show wpAny _ _ (call (Value.ref _) _) _ _ _) | (with_reducible show wpAny _ _ (pyIter _) _ _ _) | (with_reducible show UnrPost _ _ _ _ _ _ _ _ _) | (with_reducible show wpAny _ _ (exec (Stmt.Assign _ (PySem.Expr.ListComp _ _ _ _) _) _) _ _ _) | (with_reducible show wpAny _ _ (eval (PySem.Expr.ListComp _ _ _ _) _) _ _ _) | (with_reducible show wpAny _ _ (call (Value.type "zip") _) _ _ _) | (with_reducible show MEnd _ _ _ _ _ _ _ _ _ _ _ _ _) | (with_reducible show wpAny _ _ (exec (Stmt.For _ _ _ _ _) _) _ _ _) | (with_reducible show wpAny _ _ (exec (Stmt.While _ _ _ _) _) _ _ _) | (with_reducible show wpAny _ _ (eval (PySem.Expr.IfExp _ _ _ _) _) _ _ _) | (with_reducible show wpAny _ _ (compareOp .Eq (Value.ref _) (Value.ref _)) _ _ _))); first | (k_unfold; (try dsimp only)) | (k_end; wrow_close) | (with_reducible refine my_half ?_) | ((with_reducible show ite _ _ _); refine ite_pos (by decide +kernel) ?_) | ((with_reducible show wpAny _ _ (eval (PySem.Expr.Name _ _) (envOf _ _ _ _ _)) _ _ _); k_dflt (refine' nameX_L ?F ?v ?_ ?a ?b; (case F => k_asm); (case a => rfl); (case b => rfl); (case v => rfl); k_whole)) | walk1 | (dsimp only; walk1) | (leave1; walk_say "STEP leave1"; try dsimp only)))
      exact hQ' _ _ ⟨Nat.le_trans q5.1 (Nat.le_trans (Nat.le_of_lt q5.2) (by (repeat' first | exact Nat.le_refl _ | apply Nat.le_succ_of_le))), Nat.lt_succ_self _⟩ _ lF7 (by k_asm)
    · walk1
      (repeat' ((fail_if_success (first | (with_reducible show wpAny _ _ (call (Value.ref _) _) _ _ _) | (with_reducible show wpAny _ _ (pyIter _) _ _ _) | (with_reducible show UnrPost _ _ _ _ _ _ _ _ _) | (with_reducible show wpAny _ _ (exec (Stmt.Assign _ (PySem.Expr.ListComp _ _ _ _) _) _) _ _ _) | (with_reducible show wpAny _ _ (eval (PySem.Expr.ListComp _ _ _ _) _) _ _ _) | (with_reducible show wpAny _ _ (call (Value.type "zip") _) _ _ _) | (with_reducible show MEnd _ _ _ _ _ _ _ _ _ _ _ _ _) | (with_reducible show wpAny _ _ (exec (Stmt.For _ _ _ _ _) _) _ _ _) | (with_reducible show wpAny _ _ (exec (Stmt.While _ _ _ _) _) _ _ _) | (with_reducible show wpAny _ _ (eval (PySem.Expr.IfExp _ _ _ _) _) _ _ _) | (with_reducible show wpAny _ _ (compareOp .Eq (Value.ref _) (Value.ref _)) _ _ _))); first | (k_unfold; (try dsimp only)) | (k_end; wrow_close) | ((with_reducible show wpAny _ _ (eval (PySem.Expr.Name _ _) (envOf _ _ _ _ _)) _ _ _); k_dflt (refine' nameX_L ?F ?v ?_ ?a ?b; (case F => k_asm); (case a => rfl); (case b => rfl); (case v => rfl); k_whole)) | walk1 | (dsimp only; walk1) | (leave1; walk_say "STEP leave1"; try dsimp only)))
      refine eq_col (K := hd.heap_39 w.params) (Frag.In.keeps (by k_asm) (Fr.keep (by k_asm))) (by rfl) (by k_asm) (by (repeat' first | exact List.Mem.head _ | assumption | refine List.Mem.tail _ ?_)) (by (repeat' first | exact List.Mem.head _ | assumption | refine List.Mem.tail _ ?_)) hi hj ok (by ke_room) ?_
      rw [decide_eq_false hij]
      have hm := mix_max hi hj
      rw [if_neg hij] at hm
      (with_reducible rename Fr _ _ _ _ => lF7)
      have lF8 := lF7
      rw [hm] at lF8
      (repeat' ((fail_if_success (first | (with_reducible show wpAny _ _ (call (Value.ref _) _) _ _ _) | (with_reducible show wpAny _ _ (pyIter _) _ _ _) | (with_reducible show UnrPost _ _ _ _ _ _ _ _ _) | (with_reducible show wpAny _ _ (exec (Stmt.Assign _ (PySem.Expr.ListComp _ _ _ _) _) _) _ _ _) | (with_reducible show wpAny _ _ (eval (PySem.Expr.ListComp _ _ _ _) _) _ _ _) | (with_reducible show wpAny _ _ (call (Value.type "zip") _) _ _ _) | (with_reducible show MEnd _ _ _ _ _ _ _ _ _ _ _ _ _) | (with_reducible show wpAny _ _ (exec (Stmt.For _ _ _ _ _) _) _ _ _) | (with_reducible show wpAny _ _ (exec (Stmt.While _ _ _ _) _) _ _ _) | (with_reducible show wpAny _ _ (eval (PySem.Expr.IfExp _ _ _ _) _) _ _ _) | (with_reducible show wpAny _ _ (compareOp .Eq (Value.ref _) (Value.ref _)) _ _ _))); first | (k_unfold; (try dsimp only)) | (k_end; wrow_close) | ((with_reducible show ite _ _ _); refine ite_neg (by decide +kernel) ?_) | ((with_reducible show wpAny _ _ (eval (PySem.Expr.Name _ _) (envOf _ _ _ _ _)) _ _ _); k_dflt (refine' nameX_L ?F ?v ?_ ?a ?b; (case F => k_asm); (case a => rfl); (case b => rfl); (case v => rfl); k_whole)) | walk1 | (dsimp only; walk1) | (leave1; walk_say "STEP leave1"; try dsimp only)))
      exact hQ' _ _ ⟨q5.1, Nat.lt_of_lt_of_le q5.2 (by (repeat' first | exact Nat.le_refl _ | apply Nat.le_succ_of_le))⟩ _ lF7 (by k_asm)
  intro tk9 t9 q9 h9 F9 N9
  (repeat' ((fail_if_success (first | (with_reducible show wpAny _ _ (call (Value.ref _) _) _ _ _) | (with_reducible show wpAny _ _ (pyIter _) _ _ _) | (with_reducible show UnrPost _ _ _ _ _ _ _ _ _) | (with_reducible show wpAny _ _ (exec (Stmt.Assign _ (PySem.Expr.ListComp _ _ _ _) _) _) _ _ _) | (with_reducible show wpAny _ _ (eval (PySem.Expr.ListComp _ _ _ _) _) _ _ _) | (with_reducible show wpAny _ _ (call (Value.type "zip") _) _ _ _) | (with_reducible show MEnd _ _ _ _ _ _ _ _ _ _ _ _ _) | (with_reducible show wpAny _ _ (exec (Stmt.For _ _ _ _ _) _) _ _ _) | (with_reducible show wpAny _ _ (exec (Stmt.While _ _ _ _) _) _ _ _) | (with_reducible show wpAny _ _ (eval (PySem.Expr.IfExp _ _ _ _) _) _ _ _) | (with_reducible show wpAny _ _ (compareOp .Eq (Value.ref _) (Value.ref _)) _ _ _))); first | (k_unfold; (try dsimp only)) | (k_end; wrow_close) | walk1 | (dsimp only; walk1) | (leave1; walk_say "STEP leave1"; try dsimp only)))
  refine' (hsvT (w := w) _ (mixK_lt hi hj) _ rfl _ _ _).use (K := K03) ?B2 ?F2 ?X2 ?N2 ?T2 ⟨hH1, hH2⟩ rfl ?hd2 ?hu2 ?_
  case N2 => k_asm
  case B2 => k_asm
  case F2 => k_asm
  case X2 => k_asm
  case T2 => k_asm
  case hd2 => ktr_room
  case hu2 => ktr_units
  intro hi5 D5 x y z q6 qx qy qz l5 h5 F5 N5
  k_lt l5
  (repeat' ((fail_if_success (first | (with_reducible show wpAny _ _ (call (Value.ref _) _) _ _ _) | (with_reducible show wpAny _ _ (pyIter _) _ _ _) | (with_reducible show UnrPost _ _ _ _ _ _ _ _ _) | (with_reducible show wpAny _ _ (exec (Stmt.Assign _ (PySem.Expr.ListComp _ _ _ _) _) _) _ _ _) | (with_reducible show wpAny _ _ (eval (PySem.Expr.ListComp _ _ _ _) _) _ _ _) | (with_reducible show wpAny _ _ (call (Value.type "zip") _) _ _ _) | (with_reducible show MEnd _ _ _ _ _ _ _ _ _ _ _ _ _) | (with_reducible show wpAny _ _ (exec (Stmt.For _ _ _ _ _) _) _ _ _) | (with_reducible show wpAny _ _ (exec (Stmt.While _ _ _ _) _) _ _ _) | (with_reducible show wpAny _ _ (eval (PySem.Expr.IfExp _ _ _ _) _) _ _ _) | (with_reducible show wpAny _ _ (compareOp .Eq (Value.ref _) (Value.ref _)) _ _ _))); first | (k_unfold; (try dsimp only)) | (k_end; wrow_close) | walk1 | (dsimp only; walk1) | (leave1; walk_say "STEP leave1"; try dsimp only)))
  exact hret hi5 D5 x y z (Nat.le_trans (Nat.le_trans q9.1 (Nat.le_of_lt q9.2)) q6) (tokBd qx q9 q6) (tokBd qy q9 q6) (tokBd qz q9 q6) (by (repeat' ((with_reducible rename AllLt _ _ => z1); first | exact all_lt z1 (by omega) | clear z1))) _ (by k_asm) (newsSub (by k_asm) (by (repeat' first | exact List.forall_mem_nil _ | refine FMC.all ⟨by k_mem, ?_⟩ | (intro p9 hp9; (repeat' first | assumption | refine List.Mem.tail _ ?_)))))
set_option compiler.extract_closed false
set_option maxRecDepth 100000 in
set_option maxHeartbeats 4000000 in
theorem leaps {w : World} {news T0 : Led} (n : Nat) (hn : n ≤ 9) (t1 : Tok) (h30 : ∀ p ∈ news, p.1 ≠ 44) (h37 : ∀ p ∈ news, p.1 ≠ 51) (o30 o37 : Obj) (hT30 : Tab30 o30 T0) (hT37 : Tab37 o37 T0) (hs0 : ∀ p ∈ T0, p ∈ news) :
   CW K03 P03 w H03 96 460 4600 ((44, o30) :: (51, o37) :: news) [.int n t1] (fun G => ∀ (vs : List Value) (D : Addr) (k : Nat) (o30' o37' : Obj) (ext : Led), IntsAre vs (leapsL n) → Tab30 o30' (ext ++ T0) → Tab37 o37' (ext ++ T0) → (∀ q ∈ ext, (∀ z ∈ news, z.1 < q.1) ∧ @LT.lt Nat _ 51 q.1) → G (.ref D) ((D, W.listOf vs.toArray k) :: (44, o30') :: (51, o37') :: (ext ++ news))) := by
  have hlaw : (fun (_ : OpenLaw) (_ : Params → Frag) => True) Challenge.rw_pg0168_03 hd.heap_39 := by k_fill; exact True.intro
  clear hlaw
  intro p loose mean mg mb dp un gd cn cs L a ccd cl outer A₀ base h₀ m s Q E B F X N T hH hcs hdp hun hret
  obtain ⟨ck, cnm, cg, cc, cm⟩ := cs
  obtain rfl : ck = .function := hcs
  obtain ⟨hH1, hH2⟩ := hH
  replace X : (hd.heap_39 w.params).In h₀ := X
  refine wpAny_call ?_
  k_dflt k_enter
  (repeat' ((fail_if_success (first | (with_reducible show wpAny _ _ (call (Value.ref _) _) _ _ _) | (with_reducible show wpAny _ _ (pyIter _) _ _ _) | (with_reducible show UnrPost _ _ _ _ _ _ _ _ _) | (with_reducible show wpAny _ _ (exec (Stmt.Assign _ (PySem.Expr.ListComp _ _ _ _) _) _) _ _ _) | (with_reducible show wpAny _ _ (eval (PySem.Expr.ListComp _ _ _ _) _) _ _ _) | (with_reducible show wpAny _ _ (call (Value.type "zip") _) _ _ _) | (with_reducible show MEnd _ _ _ _ _ _ _ _ _ _ _ _ _) | (with_reducible show wpAny _ _ (exec (Stmt.For _ _ _ _ _) _) _ _ _) | (with_reducible show wpAny _ _ (exec (Stmt.While _ _ _ _) _) _ _ _) | (with_reducible show wpAny _ _ (eval (PySem.Expr.IfExp _ _ _ _) _) _ _ _))); first | (k_unfold; (try dsimp only)) | (k_end; wrow_close) | ((with_reducible show wpAny _ _ (storeName _ _ _) _ _ _); k_dflt (refine' storeX_L ?F ?N ?_ ?a ?b; (case F => k_asm); (case N => k_asm); (case a => rfl); (case b => rfl); k_whole; intro _ _ _; (try k_sweep))) | walk1 | (dsimp only; walk1) | (leave1; walk_say "STEP leave1"; try dsimp only)))
  rename_i g1 L1 hA FG1 B1 X1 T1 tkA D0 hB r1 r2 lD hC hE F1 N1
  refine WhileStartQ (n := 10) (LvP Tab30 Tab37 44 51 T0 news (leapsL n)) (LvX Tab30 Tab37 44 51 T0 news (leapsL n)) ?pe F1 (newsSub (T := (D0, W.listOf ([] : List Value).toArray 0) :: (44, o30) :: (51, o37) :: ([] ++ news)) N1 (by (repeat' first | exact List.forall_mem_nil _ | refine FMC.all ⟨by k_mem, ?_⟩ | (intro p9 hp9; (repeat' first | assumption | refine List.Mem.tail _ ?_))))) ?start ?turn ?done
  case pe => first | passes_own | with_unfolding_all passes_own
  case start => exact fun _ kk => kk n 1 [] [] D0 0 _ _ o30 o37 [] (by omega) (by decide) hn .nil (by simp; omega) rfl rfl rfl rfl hT30 hT37 (List.forall_mem_nil _) r2
  case done =>
    intro m nw hRx
    apply hRx
    clear hRx
    intro vs D k o44 o51 ext e1 hv h44 h51 hx h9 tk9 F9 N9
    rw [mx1 e1] at F9
    (repeat' ((fail_if_success (first | (with_reducible show wpAny _ _ (call (Value.ref _) _) _ _ _) | (with_reducible show wpAny _ _ (pyIter _) _ _ _) | (with_reducible show UnrPost _ _ _ _ _ _ _ _ _) | (with_reducible show wpAny _ _ (exec (Stmt.Assign _ (PySem.Expr.ListComp _ _ _ _) _) _) _ _ _) | (with_reducible show wpAny _ _ (eval (PySem.Expr.ListComp _ _ _ _) _) _ _ _) | (with_reducible show wpAny _ _ (call (Value.type "zip") _) _ _ _) | (with_reducible show MEnd _ _ _ _ _ _ _ _ _ _ _ _ _) | (with_reducible show wpAny _ _ (exec (Stmt.For _ _ _ _ _) _) _ _ _) | (with_reducible show wpAny _ _ (exec (Stmt.While _ _ _ _) _) _ _ _) | (with_reducible show wpAny _ _ (eval (PySem.Expr.IfExp _ _ _ _) _) _ _ _))); first | (k_unfold; (try dsimp only)) | (k_end; wrow_close) | ((with_reducible show wpAny _ _ (eval (PySem.Expr.Name _ _) (envOf _ _ _ _ _)) _ _ _); k_dflt (refine' nameX_L ?F ?v ?_ ?a ?b; (case F => k_asm); (case a => rfl); (case b => rfl); (case v => rfl); k_whole)) | walk1 | (dsimp only; walk1) | (leave1; walk_say "STEP leave1"; try dsimp only)))
    exact hret vs D k o44 o51 ext hv h44 h51 hx _ _ (by k_asm) (by k_asm)
  case turn =>
    intro nn m nw hP
    apply hP
    clear hP
    intro c l acc vs D k tc tl o44 o51 ext hcn hnn hc9 hv hal e1 e2 e3 hR h44 h51 hx hD h9 tk9 Q9 Qn9 E9 hU hUn F9 N9
    rw [mx3 e1 e2 e3] at F9
    have hE44 : ∀ q ∈ ext ++ news, q.1 ≠ 44 := fun q hq => (List.mem_append.mp hq).elim (fun h => Nat.ne_of_gt (Nat.lt_trans (show (44 : Nat) < 51 by decide) (hx q h).2)) (h30 q)
    have hE51 : ∀ q ∈ ext ++ news, q.1 ≠ 51 := fun q hq => (List.mem_append.mp hq).elim (fun h => Nat.ne_of_gt (hx q h).2) (h37 q)
    (repeat' ((fail_if_success (first | (with_reducible show wpAny _ _ (call (Value.ref _) _) _ _ _) | (with_reducible show wpAny _ _ (pyIter _) _ _ _) | (with_reducible show UnrPost _ _ _ _ _ _ _ _ _) | (with_reducible show wpAny _ _ (exec (Stmt.Assign _ (PySem.Expr.ListComp _ _ _ _) _) _) _ _ _) | (with_reducible show wpAny _ _ (eval (PySem.Expr.ListComp _ _ _ _) _) _ _ _) | (with_reducible show wpAny _ _ (call (Value.type "zip") _) _ _ _) | (with_reducible show MEnd _ _ _ _ _ _ _ _ _ _ _ _ _) | (with_reducible show wpAny _ _ (exec (Stmt.For _ _ _ _ _) _) _ _ _) | (with_reducible show wpAny _ _ (exec (Stmt.While _ _ _ _) _) _ _ _) | (with_reducible show wpAny _ _ (eval (PySem.Expr.IfExp _ _ _ _) _) _ _ _))); first | (k_unfold; (try dsimp only)) | (k_end; wrow_close) | ((with_reducible show wpAny _ _ (eval (PySem.Expr.Name _ _) (envOf _ _ _ _ _)) _ _ _); k_dflt (refine' nameX_L ?F ?v ?_ ?a ?b; (case F => k_asm); (case a => rfl); (case b => rfl); (case v => rfl); k_whole)) | walk1 | (dsimp only; walk1) | (leave1; walk_say "STEP leave1"; try dsimp only)))
    by_cases hc : c = 0
    · subst hc
      refine WhlIf.no rfl ?_
      (repeat' ((fail_if_success (first | (with_reducible show wpAny _ _ (call (Value.ref _) _) _ _ _) | (with_reducible show wpAny _ _ (pyIter _) _ _ _) | (with_reducible show UnrPost _ _ _ _ _ _ _ _ _) | (with_reducible show wpAny _ _ (exec (Stmt.Assign _ (PySem.Expr.ListComp _ _ _ _) _) _) _ _ _) | (with_reducible show wpAny _ _ (eval (PySem.Expr.ListComp _ _ _ _) _) _ _ _) | (with_reducible show wpAny _ _ (call (Value.type "zip") _) _ _ _) | (with_reducible show MEnd _ _ _ _ _ _ _ _ _ _ _ _ _) | (with_reducible show wpAny _ _ (exec (Stmt.For _ _ _ _ _) _) _ _ _) | (with_reducible show wpAny _ _ (exec (Stmt.While _ _ _ _) _) _ _ _) | (with_reducible show wpAny _ _ (eval (PySem.Expr.IfExp _ _ _ _) _) _ _ _))); first | (k_unfold; (try dsimp only)) | (k_end; wrow_close) | walk1 | (dsimp only; walk1) | (leave1; walk_say "STEP leave1"; try dsimp only)))
      rw [leapsGo_zero] at hR
      exact hUn (by k_asm) (by k_asm) ((D, W.listOf vs.toArray k) :: (44, o44) :: (51, o51) :: (ext ++ news)) (by (repeat' first | exact List.forall_mem_nil _ | refine FMC.all ⟨by k_mem, ?_⟩ | (intro p9 hp9; (repeat' first | assumption | refine List.Mem.tail _ ?_)))) (fun _ kk => kk vs D k o44 o51 ext rfl (hR ▸ hv) h44 h51 hx)
    · refine WhlIf.yes (cne0 hc) ?_
      (repeat' ((fail_if_success (first | (with_reducible show wpAny _ _ (call (Value.ref _) _) _ _ _) | (with_reducible show wpAny _ _ (pyIter _) _ _ _) | (with_reducible show UnrPost _ _ _ _ _ _ _ _ _) | (with_reducible show wpAny _ _ (exec (Stmt.Assign _ (PySem.Expr.ListComp _ _ _ _) _) _) _ _ _) | (with_reducible show wpAny _ _ (eval (PySem.Expr.ListComp _ _ _ _) _) _ _ _) | (with_reducible show wpAny _ _ (call (Value.type "zip") _) _ _ _) | (with_reducible show MEnd _ _ _ _ _ _ _ _ _ _ _ _ _) | (with_reducible show wpAny _ _ (exec (Stmt.For _ _ _ _ _) _) _ _ _) | (with_reducible show wpAny _ _ (exec (Stmt.While _ _ _ _) _) _ _ _) | (with_reducible show wpAny _ _ (eval (PySem.Expr.IfExp _ _ _ _) _) _ _ _))); first | (k_unfold; (try dsimp only)) | (k_end; wrow_close) | ((with_reducible show wpAny _ _ (callWith _ (Value.ref _) _ _ _) _ _ _); (k_here; (k_dflt (refine' callWith_K ?k1 ?k2 ?_; (case k1 => k_asm); (case k2 => k_is); k_whole)))) | ((with_reducible show wpAny _ _ (eval (PySem.Expr.Name _ _) (envOf _ _ _ _ _)) _ _ _); k_dflt (refine' nameX_L ?F ?v ?_ ?a ?b; (case F => k_asm); (case a => rfl); (case b => rfl); (case v => rfl); k_whole)) | walk1 | (dsimp only; walk1) | (leave1; walk_say "STEP leave1"; try dsimp only)))
      refine' (idm0W (w := w) (T0 := ext ++ T0) (news := (D, W.listOf vs.toArray k) :: (ext ++ news)) c 3 (by omega) (by decide) (by decide) _ _ rfl rfl _ _ ?h30 ?h37 o44 o51 h44 h51 ?hs).use (K := K03) ?B ?F ?X ?N ?T ⟨hH1, hH2⟩ rfl ?hd ?hu ?_
      case N => exact newsSub (by k_asm) (by (repeat' first | exact List.forall_mem_nil _ | refine FMC.all ⟨by k_mem, ?_⟩ | (intro p9 hp9; (repeat' first | assumption | refine List.Mem.tail _ ?_))))
      case B => k_asm
      case F => k_asm
      case X => k_asm
      case T => k_asm
      case hd => ktr_room
      case hu => ktr_units
      case h30 => exact FMC.all ⟨Nat.ne_of_gt (Nat.lt_trans (show (44 : Nat) < 51 by decide) hD), hE44⟩
      case h37 => exact FMC.all ⟨Nat.ne_of_gt hD, hE51⟩
      case hs => exact fun z hz => .tail _ ((List.mem_append.mp hz).elim (List.mem_append_left _) (fun h => List.mem_append_right _ (hs0 z h)))
      intro D1 w1 w2 o44a o51a ext1 h44a h51a lt1 lt51 lx1 h1 tk1 F1 N1
      rw [← (fdm_nat c 3).1, ← (fdm_nat c 3).2] at N1
      replace N1 := newsSub (T := (D1, tup [.int ((c / 3 : Nat) : Int) w1, .int ((c % 3 : Nat) : Int) w2]) :: (D, W.listOf vs.toArray k) :: (44, o44a) :: (51, o51a) :: ((ext1 ++ ext) ++ news)) N1 permLv
      (repeat' ((fail_if_success (first | (with_reducible show wpAny _ _ (call (Value.ref _) _) _ _ _) | (with_reducible show wpAny _ _ (pyIter _) _ _ _) | (with_reducible show UnrPost _ _ _ _ _ _ _ _ _) | (with_reducible show wpAny _ _ (exec (Stmt.Assign _ (PySem.Expr.ListComp _ _ _ _) _) _) _ _ _) | (with_reducible show wpAny _ _ (eval (PySem.Expr.ListComp _ _ _ _) _) _ _ _) | (with_reducible show wpAny _ _ (call (Value.type "zip") _) _ _ _) | (with_reducible show MEnd _ _ _ _ _ _ _ _ _ _ _ _ _) | (with_reducible show wpAny _ _ (exec (Stmt.For _ _ _ _ _) _) _ _ _) | (with_reducible show wpAny _ _ (exec (Stmt.While _ _ _ _) _) _ _ _) | (with_reducible show wpAny _ _ (eval (PySem.Expr.IfExp _ _ _ _) _) _ _ _))); first | (k_unfold; (try dsimp only)) | (k_end; wrow_close) | ((with_reducible show wpAny _ _ (eval (PySem.Expr.Name _ _) (envOf _ _ _ _ _)) _ _ _); k_dflt (refine' nameX_L ?F ?v ?_ ?a ?b; (case F => k_asm); (case a => rfl); (case b => rfl); (case v => rfl); k_whole)) | ((with_reducible show wpAny _ _ (storeName _ _ _) _ _ _); k_dflt (refine' storeX_L ?F ?N ?_ ?a ?b; (case F => k_asm); (case N => k_asm); (case a => rfl); (case b => rfl); k_whole; intro _ _ _; (try k_sweep))) | walk1 | (dsimp only; walk1) | (leave1; walk_say "STEP leave1"; try dsimp only)))
      rename_i D2 ws hX hI z1 z2 z3 z4 z5 z6 zl hY hZ FF NN
      obtain ⟨k9, rfl⟩ : ∃ k9, nn = k9 + 1 := ⟨nn - 1, by omega⟩
      rw [leapsGo, if_neg hc] at hR
      exact hU FF NN ((D2, W.listOf ws.toArray 0) :: (44, o44a) :: (51, o51a) :: ((ext1 ++ ext) ++ news)) (by (repeat' first | exact List.forall_mem_nil _ | refine FMC.all ⟨by k_mem, ?_⟩ | (intro p9 hp9; (repeat' first | assumption | refine List.Mem.tail _ ?_)))) ⟨k9, Nat.lt_succ_self _, fun _ kk => kk (c / 3) (l * 3) (List.replicate (c % 3) (l : Int) ++ acc) ws D2 0 _ _ o44a o51a (ext1 ++ ext) (by omega) (by omega) (by omega) (ints_flat hI) (by simp only [List.length_append, List.length_replicate]; omega) rfl rfl rfl hR (by rw [List.append_assoc]; exact h44a) (by rw [List.append_assoc]; exact h51a) (freshLv lx1 hx) z6⟩
set_option compiler.extract_closed false
set_option maxRecDepth 100000 in
set_option maxHeartbeats 4000000 in
theorem bytext {w : World} {news : Led} (r : List Nat) (h3 : ∀ x ∈ r, x < 3) (h1 : 1 ≤ r.length) (h10 : r.length ≤ 10) (tx : Tok) :
   CW K03 P03 w H03 84 60 600 news [.str ⟨(lets r).toArray⟩ tx] (fun G => ∀ (ws : List Value) (D : Addr) (k : Nat), StrsAre ws ((rowsL r.length r).map fun l => ⟨(lets l).toArray⟩) → (∀ q ∈ news, q.1 < D) → G (.ref D) ((D, W.listOf ws.toArray k) :: news)) := by
  have hlaw : (fun (_ : OpenLaw) (_ : Params → Frag) => True) Challenge.rw_pg0168_03 hd.heap_39 := by k_fill; exact True.intro
  clear hlaw
  intro p loose mean mg mb dp un gd cn cs L a ccd cl outer A₀ base h₀ m s Q E B F X N T hH hcs hdp hun hret
  obtain ⟨ck, cnm, cg, cc, cm⟩ := cs
  obtain rfl : ck = .function := hcs
  obtain ⟨hH1, hH2⟩ := hH
  replace X : (hd.heap_39 w.params).In h₀ := X
  refine wpAny_call ?_
  k_dflt k_enter
  (repeat' ((fail_if_success (first | (with_reducible show wpAny _ _ (call (Value.ref _) _) _ _ _) | (with_reducible show wpAny _ _ (pyIter _) _ _ _) | (with_reducible show UnrPost _ _ _ _ _ _ _ _ _) | (with_reducible show wpAny _ _ (exec (Stmt.Assign _ (PySem.Expr.ListComp _ _ _ _) _) _) _ _ _) | (with_reducible show wpAny _ _ (eval (PySem.Expr.ListComp _ _ _ _) _) _ _ _) | (with_reducible show wpAny _ _ (call (Value.type "zip") _) _ _ _) | (with_reducible show MEnd _ _ _ _ _ _ _ _ _ _ _ _ _) | (with_reducible show wpAny _ _ (exec (Stmt.For _ _ _ _ _) _) _ _ _) | (with_reducible show wpAny _ _ (exec (Stmt.While _ _ _ _) _) _ _ _) | (with_reducible show wpAny _ _ (eval (PySem.Expr.IfExp _ _ _ _) _) _ _ _))); first | (k_unfold; (try dsimp only)) | (k_end; wrow_close) | ((with_reducible show wpAny _ _ (eval (PySem.Expr.Name _ _) (envOf _ _ _ _ _)) _ _ _); k_dflt (refine' nameX_L ?F ?v ?_ ?a ?b; (case F => k_asm); (case a => rfl); (case b => rfl); (case v => rfl); k_whole)) | ((with_reducible show wpAny _ _ (storeName _ _ _) _ _ _); k_dflt (refine' storeX_L ?F ?N ?_ ?a ?b; (case F => k_asm); (case N => k_asm); (case a => rfl); (case b => rfl); k_whole; intro _ _ _; (try k_sweep))) | walk1 | (dsimp only; walk1) | (leave1; walk_say "STEP leave1"; try dsimp only)))
  rename_i g1 L1 hA FG1 B1 X1 T1 tkA D0 hB lD hC F1 N1
  refine WhileStartQ (n := r.length) (ByP news ((rowsL r.length r).map strL)) (ByX news ((rowsL r.length r).map strL)) ?pe F1 (newsSub (T := (D0, W.listOf [Value.str (strL r) tx].toArray 0) :: news) N1 (fun _ h => h)) ?start ?turn ?done
  case pe => first | passes_own | with_unfolding_all passes_own
  case start => exact fun _ kk => kk r [] [.str (strL r) tx] D0 0 tx rfl h1 h3 (.cons _ _ .nil) (by simpa using h10) rfl rfl rfl (fun z hz => allLt_mem lD z hz)
  case done =>
    intro m nw hRx
    apply hRx
    clear hRx
    intro ws D k hw e1 hx h9 tk9 F9 N9
    rw [mx1 e1] at F9
    (repeat' ((fail_if_success (first | (with_reducible show wpAny _ _ (call (Value.ref _) _) _ _ _) | (with_reducible show wpAny _ _ (pyIter _) _ _ _) | (with_reducible show UnrPost _ _ _ _ _ _ _ _ _) | (with_reducible show wpAny _ _ (exec (Stmt.Assign _ (PySem.Expr.ListComp _ _ _ _) _) _) _ _ _) | (with_reducible show wpAny _ _ (eval (PySem.Expr.ListComp _ _ _ _) _) _ _ _) | (with_reducible show wpAny _ _ (call (Value.type "zip") _) _ _ _) | (with_reducible show MEnd _ _ _ _ _ _ _ _ _ _ _ _ _) | (with_reducible show wpAny _ _ (exec (Stmt.For _ _ _ _ _) _) _ _ _) | (with_reducible show wpAny _ _ (exec (Stmt.While _ _ _ _) _) _ _ _) | (with_reducible show wpAny _ _ (eval (PySem.Expr.IfExp _ _ _ _) _) _ _ _))); first | (k_unfold; (try dsimp only)) | (k_end; wrow_close) | ((with_reducible show wpAny _ _ (eval (PySem.Expr.Name _ _) (envOf _ _ _ _ _)) _ _ _); k_dflt (refine' nameX_L ?F ?v ?_ ?a ?b; (case F => k_asm); (case a => rfl); (case b => rfl); (case v => rfl); k_whole)) | walk1 | (dsimp only; walk1) | (leave1; walk_say "STEP leave1"; try dsimp only)))
    exact hret ws D k hw hx _ _ (by k_asm) (by k_asm)
  case turn =>
    intro n m nw hP
    apply hP
    clear hP
    intro r dn ws D k tx hr h1 h3 hw hdn e1 e2 hR hD h9 tk9 Q9 Qn9 E9 hU hUn F9 N9
    rw [mx2 e1 e2] at F9
    have hsl := strL_len r
    (repeat' ((fail_if_success (first | (with_reducible show wpAny _ _ (call (Value.ref _) _) _ _ _) | (with_reducible show wpAny _ _ (pyIter _) _ _ _) | (with_reducible show UnrPost _ _ _ _ _ _ _ _ _) | (with_reducible show wpAny _ _ (exec (Stmt.Assign _ (PySem.Expr.ListComp _ _ _ _) _) _) _ _ _) | (with_reducible show wpAny _ _ (eval (PySem.Expr.ListComp _ _ _ _) _) _ _ _) | (with_reducible show wpAny _ _ (call (Value.type "zip") _) _ _ _) | (with_reducible show MEnd _ _ _ _ _ _ _ _ _ _ _ _ _) | (with_reducible show wpAny _ _ (exec (Stmt.For _ _ _ _ _) _) _ _ _) | (with_reducible show wpAny _ _ (exec (Stmt.While _ _ _ _) _) _ _ _) | (with_reducible show wpAny _ _ (eval (PySem.Expr.IfExp _ _ _ _) _) _ _ _))); first | (k_unfold; (try dsimp only)) | (k_end; wrow_close) | ((with_reducible show wpAny _ _ (call (Value.builtin "len") [(Value.str _ _)]) _ _ _); refine len_str (by omega) ?_) | ((with_reducible show wpAny _ _ (eval (PySem.Expr.Name _ _) (envOf _ _ _ _ _)) _ _ _); k_dflt (refine' nameX_L ?F ?v ?_ ?a ?b; (case F => k_asm); (case a => rfl); (case b => rfl); (case v => rfl); k_whole)) | walk1 | (dsimp only; walk1) | (leave1; walk_say "STEP leave1"; try dsimp only)))
    by_cases hn : n = 1
    · subst hn
      refine WhlIf.no (decide_eq_false (by rw [hsl]; omega)) ?_
      (repeat' ((fail_if_success (first | (with_reducible show wpAny _ _ (call (Value.ref _) _) _ _ _) | (with_reducible show wpAny _ _ (pyIter _) _ _ _) | (with_reducible show UnrPost _ _ _ _ _ _ _ _ _) | (with_reducible show wpAny _ _ (exec (Stmt.Assign _ (PySem.Expr.ListComp _ _ _ _) _) _) _ _ _) | (with_reducible show wpAny _ _ (eval (PySem.Expr.ListComp _ _ _ _) _) _ _ _) | (with_reducible show wpAny _ _ (call (Value.type "zip") _) _ _ _) | (with_reducible show MEnd _ _ _ _ _ _ _ _ _ _ _ _ _) | (with_reducible show wpAny _ _ (exec (Stmt.For _ _ _ _ _) _) _ _ _) | (with_reducible show wpAny _ _ (exec (Stmt.While _ _ _ _) _) _ _ _) | (with_reducible show wpAny _ _ (eval (PySem.Expr.IfExp _ _ _ _) _) _ _ _))); first | (k_unfold; (try dsimp only)) | (k_end; wrow_close) | walk1 | (dsimp only; walk1) | (leave1; walk_say "STEP leave1"; try dsimp only)))
      exact hUn (by k_asm) (by k_asm) ((D, W.listOf ws.toArray k) :: news) (by (repeat' first | exact List.forall_mem_nil _ | refine FMC.all ⟨by k_mem, ?_⟩ | (intro p9 hp9; (repeat' first | assumption | refine List.Mem.tail _ ?_)))) (fun _ kk => kk ws D k (hR ▸ hw) rfl hD)
    · refine WhlIf.yes (decide_eq_true (by rw [hsl]; omega)) ?_
      (repeat' ((fail_if_success (first | (with_reducible show wpAny _ _ (call (Value.ref _) _) _ _ _) | (with_reducible show wpAny _ _ (pyIter _) _ _ _) | (with_reducible show UnrPost _ _ _ _ _ _ _ _ _) | (with_reducible show wpAny _ _ (exec (Stmt.Assign _ (PySem.Expr.ListComp _ _ _ _) _) _) _ _ _) | (with_reducible show wpAny _ _ (eval (PySem.Expr.ListComp _ _ _ _) _) _ _ _) | (with_reducible show wpAny _ _ (call (Value.type "zip") _) _ _ _) | (with_reducible show MEnd _ _ _ _ _ _ _ _ _ _ _ _ _) | (with_reducible show wpAny _ _ (exec (Stmt.For _ _ _ _ _) _) _ _ _) | (with_reducible show wpAny _ _ (exec (Stmt.While _ _ _ _) _) _ _ _) | (with_reducible show wpAny _ _ (eval (PySem.Expr.IfExp _ _ _ _) _) _ _ _))); first | (k_unfold; (try dsimp only)) | (k_end; wrow_close) | ((with_reducible show wpAny _ _ (callWith _ (Value.ref _) _ _ _) _ _ _); (k_here; (k_dflt (refine' callWith_K ?k1 ?k2 ?_; (case k1 => k_asm); (case k2 => k_is); k_whole)))) | ((with_reducible show wpAny _ _ (eval (PySem.Expr.Name _ _) (envOf _ _ _ _ _)) _ _ _); k_dflt (refine' nameX_L ?F ?v ?_ ?a ?b; (case F => k_asm); (case a => rfl); (case b => rfl); (case v => rfl); k_whole)) | walk1 | (dsimp only; walk1) | (leave1; walk_say "STEP leave1"; try dsimp only)))
      refine' (repGW (w := w) ((S "r", _), (S "r,r", _)) [((S "g", _), (S "g,g", _)), ((S "b", _), (S "b,b", _))] (strL r) (repOk3 (by rw [hsl]; omega)) (Nat.le_of_ble_eq_true rfl) _).use (K := K03) ?B1 ?F1 ?X1 ?N1 ?T1 ⟨hH1, hH2⟩ rfl ?hd1 ?hu1 ?_
      case N1 => k_asm
      case B1 => k_asm
      case F1 => k_asm
      case X1 => k_asm
      case T1 => k_asm
      case hd1 => ktr_room
      case hu1 => ktr_units
      intro y ty hy h1 tk1 F1 N1
      replace hy : y.cps.toList = dbl (lets r) := hy.trans (rep3_text (lets r) (lets_ne h3))
      have hyl : y.length = 3 * r.length := by
        have e : y.length = (dbl (lets r)).length := by rw [← hy]; simp [PySem.Str.length]
        rw [e, dbl_len]; simp [lets]
      (repeat' ((fail_if_success (first | (with_reducible show wpAny _ _ (call (Value.ref _) _) _ _ _) | (with_reducible show wpAny _ _ (pyIter _) _ _ _) | (with_reducible show UnrPost _ _ _ _ _ _ _ _ _) | (with_reducible show wpAny _ _ (exec (Stmt.Assign _ (PySem.Expr.ListComp _ _ _ _) _) _) _ _ _) | (with_reducible show wpAny _ _ (eval (PySem.Expr.ListComp _ _ _ _) _) _ _ _) | (with_reducible show wpAny _ _ (call (Value.type "zip") _) _ _ _) | (with_reducible show MEnd _ _ _ _ _ _ _ _ _ _ _ _ _) | (with_reducible show wpAny _ _ (exec (Stmt.For _ _ _ _ _) _) _ _ _) | (with_reducible show wpAny _ _ (exec (Stmt.While _ _ _ _) _) _ _ _) | (with_reducible show wpAny _ _ (eval (PySem.Expr.IfExp _ _ _ _) _) _ _ _))); first | (k_unfold; (try dsimp only)) | (k_end; wrow_close) | ((with_reducible show wpAny _ _ (callWith _ (Value.ref _) _ _ _) _ _ _); (k_here; (k_dflt (refine' callWith_K ?k1 ?k2 ?_; (case k1 => k_asm); (case k2 => k_is); k_whole)))) | ((with_reducible show wpAny _ _ (eval (PySem.Expr.Name _ _) (envOf _ _ _ _ _)) _ _ _); k_dflt (refine' nameX_L ?F ?v ?_ ?a ?b; (case F => k_asm); (case a => rfl); (case b => rfl); (case v => rfl); k_whole)) | ((with_reducible show wpAny _ _ (storeName _ _ _) _ _ _); k_dflt (refine' storeX_L ?F ?N ?_ ?a ?b; (case F => k_asm); (case N => k_asm); (case a => rfl); (case b => rfl); k_whole; intro _ _ _; (try k_sweep))) | walk1 | (dsimp only; walk1) | (leave1; walk_say "STEP leave1"; try dsimp only)))
      have hx2 := mid_text hy (by omega)
      have hl2 := Txt.slice_le y (some 2) (some (-2))
      (with_reducible rename Fr _ _ _ _ => lF)
      generalize Txt.slice y (some 2) (some (-2)) = x2 at hx2 hl2 lF ⊢
      refine' (repGW (w := w) ((S "rr", _), (S "r", _)) [((S "gg", _), (S "g", _)), ((S "bb", _), (S "b", _)), ((S "rg", _), (S "b", _)), ((S "gr", _), (S "b", _)), ((S "gb", _), (S "r", _)), ((S "bg", _), (S "r", _)), ((S "br", _), (S "g", _)), ((S "rb", _), (S "g", _)), ((S ",", _), (S "", _))] x2 (repOk10 (by omega)) (Nat.le_of_ble_eq_true rfl) _).use (K := K03) ?B2 ?F2 ?X2 ?N2 ?T2 ⟨hH1, hH2⟩ rfl ?hd2 ?hu2 ?_
      case N2 => k_asm
      case B2 => k_asm
      case F2 => k_asm
      case X2 => k_asm
      case T2 => k_asm
      case hd2 => ktr_room
      case hu2 => ktr_units
      intro y3 t3 hy3 h3' tk3 F3 N3
      rw [hx2] at hy3
      replace hy3 : y3 = strL (nextR r) := cps_eq (hy3.trans (rep10_text r h3))
      subst hy3
      have hDn : ∀ q ∈ news, q.1 ≠ D := fun q h => Nat.ne_of_lt (hD q h)
      have hwl : ws.length = dn.length + 1 := by rw [StrsAre.len_eq hw]; simp
      (repeat' ((fail_if_success (first | (with_reducible show wpAny _ _ (call (Value.ref _) _) _ _ _) | (with_reducible show wpAny _ _ (pyIter _) _ _ _) | (with_reducible show UnrPost _ _ _ _ _ _ _ _ _) | (with_reducible show wpAny _ _ (exec (Stmt.Assign _ (PySem.Expr.ListComp _ _ _ _) _) _) _ _ _) | (with_reducible show wpAny _ _ (eval (PySem.Expr.ListComp _ _ _ _) _) _ _ _) | (with_reducible show wpAny _ _ (call (Value.type "zip") _) _ _ _) | (with_reducible show MEnd _ _ _ _ _ _ _ _ _ _ _ _ _) | (with_reducible show wpAny _ _ (exec (Stmt.For _ _ _ _ _) _) _ _ _) | (with_reducible show wpAny _ _ (exec (Stmt.While _ _ _ _) _) _ _ _) | (with_reducible show wpAny _ _ (eval (PySem.Expr.IfExp _ _ _ _) _) _ _ _))); first | (k_unfold; (try dsimp only)) | (k_end; wrow_close) | ((with_reducible show wpAny _ _ (eval (PySem.Expr.Name _ _) (envOf _ _ _ _ _)) _ _ _); k_dflt (refine' nameX_L ?F ?v ?_ ?a ?b; (case F => k_asm); (case a => rfl); (case b => rfl); (case v => rfl); k_whole)) | ((with_reducible show wpAny _ _ (storeName _ _ _) _ _ _); k_dflt (refine' storeX_L ?F ?N ?_ ?a ?b; (case F => k_asm); (case N => k_asm); (case a => rfl); (case b => rfl); k_whole; intro _ _ _; (try k_sweep))) | walk1 | (dsimp only; walk1) | (leave1; walk_say "STEP leave1"; try dsimp only)))
      (with_reducible rename News _ _ _ _ => N7)
      simp only [List.push_toArray] at N7
      obtain ⟨j, rfl⟩ : ∃ j, n = j + 1 := ⟨n - 1, by omega⟩
      rw [rowsL_succ, List.map_cons] at hR
      exact hU (by k_asm) (by k_asm) ((D, W.listOf (ws ++ [Value.str (strL (nextR r)) t3]).toArray (k + 1)) :: news) (by (repeat' first | exact List.forall_mem_nil _ | refine FMC.all ⟨by k_mem, ?_⟩ | (intro p9 hp9; (repeat' first | assumption | refine List.Mem.tail _ ?_)))) ⟨j, Nat.lt_succ_self _, fun _ kk => kk (nextR r) (dn ++ [strL r]) (ws ++ [Value.str (strL (nextR r)) t3]) D (k + 1) t3 (by rw [nextR_length]; omega) (by omega) (nextR_lt h3) (StrsAre.append' hw (.cons _ _ .nil)) (by simp only [List.length_append, List.length_cons, List.length_nil]; omega) rfl rfl (by rw [List.append_assoc]; exact hR) hD⟩
set_option compiler.extract_closed false
set_option maxRecDepth 100000 in
set_option maxHeartbeats 40000000 in
theorem main : PySem.Challenge.rw_pg0168_03.Holds := by
  refine Mine.hd ?_
  k_go0
  (repeat' ((fail_if_success (first | (with_reducible show wpAny _ _ (call (Value.ref _) _) _ _ _) | (with_reducible show wpAny _ _ (pyIter _) _ _ _) | (with_reducible show UnrPost _ _ _ _ _ _ _ _ _) | (with_reducible show wpAny _ _ (exec (Stmt.Assign _ (PySem.Expr.ListComp _ _ _ _) _) _) _ _ _) | (with_reducible show wpAny _ _ (eval (PySem.Expr.ListComp _ _ _ _) _) _ _ _) | (with_reducible show wpAny _ _ (call (Value.type "zip") _) _ _ _) | (with_reducible show MEnd _ _ _ _ _ _ _ _ _ _ _ _ _) | (with_reducible show wpAny _ _ (exec (Stmt.For _ _ _ _ _) _) _ _ _) | (with_reducible show wpAny _ _ (exec (Stmt.While _ _ _ _) _) _ _ _) | (with_reducible show wpAny _ _ (eval (PySem.Expr.IfExp _ _ _ _) _) _ _ _) | (with_reducible show wpAny _ _ (compareOp .NotEq (Value.ref _) (Value.ref _)) _ _ _))); first | (k_unfold; (try dsimp only)) | (k_end; wrow_close) | ((with_reducible show wpAny _ _ (execs (_ :: _) _) _ _ _); (with_reducible refine wpAny_execs_cons ?_); try dsimp only) | ((with_reducible show wpAny _ _ (execs [] _) _ _ _); refine wpAny_execs_nil ?_; try dsimp only) | walk1 | (dsimp only; walk1) | (leave1; walk_say "STEP leave1"; try dsimp only)))
  rename_i w s0 s1 mg mb G Y fa o pm cd doc ho hcd hg Xm V T B TE TW script hs hlay hL1 hr1 hl2 a5 a4 scr vsc a1 hL ra w1 r0 hIs hrr hc1 hc2 hD hh1 tk1 oC dC XC XX TT KK F0 cH N0 q51 q44
  (k_dflt (refine mc_Assign (ct := none) (by k_asm) (by rfl) (by with_unfolding_all rfl) (by with_unfolding_all rfl) (by decide) (by rfl) (by decide) (by rfl) (by rfl) (by decide) (by rfl) (by rfl) ?_))
  (repeat' ((fail_if_success (first | (with_reducible show wpAny _ _ (call (Value.ref _) _) _ _ _) | (with_reducible show wpAny _ _ (pyIter _) _ _ _) | (with_reducible show UnrPost _ _ _ _ _ _ _ _ _) | (with_reducible show wpAny _ _ (exec (Stmt.Assign _ (PySem.Expr.ListComp _ _ _ _) _) _) _ _ _) | (with_reducible show wpAny _ _ (eval (PySem.Expr.ListComp _ _ _ _) _) _ _ _) | (with_reducible show wpAny _ _ (call (Value.type "zip") _) _ _ _) | (with_reducible show MEnd _ _ _ _ _ _ _ _ _ _ _ _ _) | (with_reducible show wpAny _ _ (exec (Stmt.For _ _ _ _ _) _) _ _ _) | (with_reducible show wpAny _ _ (exec (Stmt.While _ _ _ _) _) _ _ _) | (with_reducible show wpAny _ _ (eval (PySem.Expr.IfExp _ _ _ _) _) _ _ _) | (with_reducible show wpAny _ _ (compareOp .NotEq (Value.ref _) (Value.ref _)) _ _ _))); first | (k_unfold; (try dsimp only)) | (k_end; wrow_close) | ((with_reducible show wpAny _ _ (execs (_ :: _) _) _ _ _); (with_reducible refine wpAny_execs_cons ?_); try dsimp only) | ((with_reducible show wpAny _ _ (execs [] _) _ _ _); refine wpAny_execs_nil ?_; try dsimp only) | walk1 | (dsimp only; walk1) | (leave1; walk_say "STEP leave1"; try dsimp only)))
  rename_i D2 ws2 hA F2 N2 hI2 z1 z2 z3 z4 z5 z6 z7
  refine mc_zip (by rfl) (by k_asm) (by k_asm) Arm.list (Arm.list (a := D2) (vs := ws2) (n := 0)) (by (repeat' first | exact List.forall_mem_nil _ | refine FMC.all ⟨by k_mem, ?_⟩ | (intro p9 hp9; (repeat' first | assumption | refine List.Mem.tail _ ?_)))) (by (repeat' first | exact List.forall_mem_nil _ | refine FMC.all ⟨by k_mem, ?_⟩ | (intro p9 hp9; (repeat' first | assumption | refine List.Mem.tail _ ?_)))) rfl (by rw [List.length_zip, List.length_map]; exact Nat.le_trans (Nat.min_le_left _ _) (Nat.le_of_ble_eq_true rfl)) (fun g i0 => ?_)
  refine mrest_ints (fun x y => x + y) _ ?turnA _ _ [4, 0, 1, 1, 2, 0, 2, 1, 0, 2, 1] _ [] [] _ (Nat.le_refl _) (by repeat constructor) hI2 .nil ?finA
  case turnA =>
    intro x y t u its C oC D m₂ ys h tk E' hn hi hC ha hb F N off offI offC ne
    (repeat' ((fail_if_success (first | (with_reducible show wpAny _ _ (call (Value.ref _) _) _ _ _) | (with_reducible show wpAny _ _ (pyIter _) _ _ _) | (with_reducible show UnrPost _ _ _ _ _ _ _ _ _) | (with_reducible show wpAny _ _ (exec (Stmt.Assign _ (PySem.Expr.ListComp _ _ _ _) _) _) _ _ _) | (with_reducible show wpAny _ _ (eval (PySem.Expr.ListComp _ _ _ _) _) _ _ _) | (with_reducible show wpAny _ _ (call (Value.type "zip") _) _ _ _) | (with_reducible show MEnd _ _ _ _ _ _ _ _ _ _ _ _ _) | (with_reducible show wpAny _ _ (exec (Stmt.For _ _ _ _ _) _) _ _ _) | (with_reducible show wpAny _ _ (exec (Stmt.While _ _ _ _) _) _ _ _) | (with_reducible show wpAny _ _ (eval (PySem.Expr.IfExp _ _ _ _) _) _ _ _) | (with_reducible show wpAny _ _ (compareOp .NotEq (Value.ref _) (Value.ref _)) _ _ _))); first | (k_unfold; (try dsimp only)) | (k_end; wrow_close) | ((with_reducible show wpAny _ _ (execs (_ :: _) _) _ _ _); (with_reducible refine wpAny_execs_cons ?_); try dsimp only) | ((with_reducible show wpAny _ _ (execs [] _) _ _ _); refine wpAny_execs_nil ?_; try dsimp only) | ((with_reducible show wpAny _ _ (eval (PySem.Expr.Name _ _) (compEnvC _ _ _ _)) _ _ _); k_dflt (refine LCgL.ld_own (by k_asm) (by k_mem) (by assumption) (by assumption) ?_)) | walk1 | (dsimp only; walk1) | (leave1; walk_say "STEP leave1"; try dsimp only)))
    (refine MEnd.intro (by k_asm) (by k_asm) _ (fun p9 hp9 => hp9) (by with_reducible assumption) (by with_reducible assumption) ?gK9 ?_; (case gK9 => ((try simp only [List.cons_append, List.nil_append]); (repeat' first | exact List.forall_mem_nil _ | refine FMC.all ⟨by k_mem, ?_⟩ | (intro p9 hp9; (repeat' first | assumption | refine List.Mem.tail _ ?_))))))
    exact ⟨rfl, Nat.le_succ_of_le hn, _, rfl⟩
  case finA =>
    intro n' zs hn' hz
    obtain ⟨nums, hz, hl⟩ := nums11 hz
    intro D3 hB tkB hgB FB NB neB ltB
    k_lt ltB
    have hpB : 0 < tkB := Nat.lt_of_lt_of_le (Nat.succ_pos _) (Nat.le_trans hn' hgB)
    (repeat' ((fail_if_success (first | (with_reducible show wpAny _ _ (call (Value.ref _) _) _ _ _) | (with_reducible show wpAny _ _ (pyIter _) _ _ _) | (with_reducible show UnrPost _ _ _ _ _ _ _ _ _) | (with_reducible show wpAny _ _ (exec (Stmt.Assign _ (PySem.Expr.ListComp _ _ _ _) _) _) _ _ _) | (with_reducible show wpAny _ _ (eval (PySem.Expr.ListComp _ _ _ _) _) _ _ _) | (with_reducible show wpAny _ _ (call (Value.type "zip") _) _ _ _) | (with_reducible show MEnd _ _ _ _ _ _ _ _ _ _ _ _ _) | (with_reducible show wpAny _ _ (exec (Stmt.For _ _ _ _ _) _) _ _ _) | (with_reducible show wpAny _ _ (exec (Stmt.While _ _ _ _) _) _ _ _) | (with_reducible show wpAny _ _ (eval (PySem.Expr.IfExp _ _ _ _) _) _ _ _) | (with_reducible show wpAny _ _ (compareOp .NotEq (Value.ref _) (Value.ref _)) _ _ _))); first | (k_unfold; (try dsimp only)) | (k_end; wrow_close) | ((with_reducible show wpAny _ _ (execs (_ :: _) _) _ _ _); (with_reducible refine wpAny_execs_cons ?_); try dsimp only) | ((with_reducible show wpAny _ _ (execs [] _) _ _ _); refine wpAny_execs_nil ?_; try dsimp only) | walk1 | (dsimp only; walk1) | (leave1; walk_say "STEP leave1"; try dsimp only)))
    refine wpAny_grow ?_
    (k_dflt (refine LCg.Assign_ListComp_U (F₀ := by k_asm) (by rfl) (by with_unfolding_all rfl) (by with_unfolding_all rfl) (by decide) (by rfl) (by decide) (by rfl) (by rfl) (by rfl) ?_))
    (repeat' ((fail_if_success (first | (with_reducible show wpAny _ _ (call (Value.ref _) _) _ _ _) | (with_reducible show wpAny _ _ (pyIter _) _ _ _) | (with_reducible show UnrPost _ _ _ _ _ _ _ _ _) | (with_reducible show wpAny _ _ (exec (Stmt.Assign _ (PySem.Expr.ListComp _ _ _ _) _) _) _ _ _) | (with_reducible show wpAny _ _ (eval (PySem.Expr.ListComp _ _ _ _) _) _ _ _) | (with_reducible show wpAny _ _ (call (Value.type "zip") _) _ _ _) | (with_reducible show MEnd _ _ _ _ _ _ _ _ _ _ _ _ _) | (with_reducible show wpAny _ _ (exec (Stmt.For _ _ _ _ _) _) _ _ _) | (with_reducible show wpAny _ _ (exec (Stmt.While _ _ _ _) _) _ _ _) | (with_reducible show wpAny _ _ (eval (PySem.Expr.IfExp _ _ _ _) _) _ _ _) | (with_reducible show LCg.CompSrc _ _ _ _ _ _ _ _ _ _ _ _ _ _) | (with_reducible show LCg.CompEnd _ _ _ _ _ _ _ _ _ _ _ _ _ _) | (with_reducible show wpAny _ _ (compareOp .NotEq (Value.ref _) (Value.ref _)) _ _ _))); first | (k_unfold; (try dsimp only)) | (k_end; wrow_close) | ((with_reducible show wpAny _ _ (execs (_ :: _) _) _ _ _); (with_reducible refine wpAny_execs_cons ?_); try dsimp only) | ((with_reducible show wpAny _ _ (execs [] _) _ _ _); refine wpAny_execs_nil ?_; try dsimp only) | walk1 | (dsimp only; walk1) | (leave1; walk_say "STEP leave1"; try dsimp only)))
    rename_i D4 ws4 hC4 F4 N4 hI4 hl4 hm4 y1 y2 y3 y4 y5 y6 y7 y8 y9
    have hs4 : ws4.toArray.size ≤ 10 := by rw [List.size_toArray, hI4.length]; exact row_len hl
    (refine LCg.CompSrc.ledger (by rfl) (by k_asm) (by k_asm) (by k_mem) (by first | size_fits | exact Nat.le_of_ble_eq_true rfl | (rw [PySem.sizeLine_eq]; omega)) ?_; intro _)
    refine comp_list (fun v y => ∀ x t, v = .int x t → ∃ u, y = .int (x.fmod 3) u) ?turnB ?finB
    case turnB =>
      intro v I oI C oC D m₂ ys h tk E' hv hC hx F N off ne
      obtain ⟨x, t, rfl⟩ := ints_mem hI4 hv
      (repeat' ((fail_if_success (first | (with_reducible show wpAny _ _ (call (Value.ref _) _) _ _ _) | (with_reducible show wpAny _ _ (pyIter _) _ _ _) | (with_reducible show UnrPost _ _ _ _ _ _ _ _ _) | (with_reducible show wpAny _ _ (exec (Stmt.Assign _ (PySem.Expr.ListComp _ _ _ _) _) _) _ _ _) | (with_reducible show wpAny _ _ (eval (PySem.Expr.ListComp _ _ _ _) _) _ _ _) | (with_reducible show wpAny _ _ (call (Value.type "zip") _) _ _ _) | (with_reducible show MEnd _ _ _ _ _ _ _ _ _ _ _ _ _) | (with_reducible show wpAny _ _ (exec (Stmt.For _ _ _ _ _) _) _ _ _) | (with_reducible show wpAny _ _ (exec (Stmt.While _ _ _ _) _) _ _ _) | (with_reducible show wpAny _ _ (eval (PySem.Expr.IfExp _ _ _ _) _) _ _ _) | (with_reducible show LCg.CompSrc _ _ _ _ _ _ _ _ _ _ _ _ _ _) | (with_reducible show LCg.CompEnd _ _ _ _ _ _ _ _ _ _ _ _ _ _) | (with_reducible show wpAny _ _ (compareOp .NotEq (Value.ref _) (Value.ref _)) _ _ _))); first | (k_unfold; (try dsimp only)) | (k_end; wrow_close) | ((with_reducible show wpAny _ _ (execs (_ :: _) _) _ _ _); (with_reducible refine wpAny_execs_cons ?_); try dsimp only) | ((with_reducible show wpAny _ _ (execs [] _) _ _ _); refine wpAny_execs_nil ?_; try dsimp only) | ((with_reducible show wpAny _ _ (eval (PySem.Expr.Name _ _) (compEnvC _ _ _ _)) _ _ _); k_dflt (refine LCgL.ld_own (by k_asm) (by k_mem) (by assumption) (by assumption) ?_)) | walk1 | (dsimp only; walk1) | (leave1; walk_say "STEP leave1"; try dsimp only)))
      exact LCg.CompEnd.intro F N _ (fun p hp => hp) off (.inr ⟨_, .head _, rfl, _, rfl⟩) ⟨rfl, fun x9 t9 e9 => by cases e9; exact ⟨_, rfl⟩⟩
    case finB =>
      intro ys hys
      obtain ⟨r, hr, hr3, hr4, hr10⟩ := row_of hl hI4 hys
      intro D5 h5 tk5 F5 N5 off5 q5
      have hp5 : 0 < tk5 := Nat.lt_of_lt_of_le (Nat.lt_of_lt_of_le hpB (by (repeat' first | exact Nat.le_refl _ | apply Nat.le_succ_of_le))) q5
      have e1 : @Ne Nat D5 (s1.heap.objs.size + 1) := Ne.symm (off1_mem off5 (s1.heap.objs.size + 1, oC) (by (repeat' first | exact List.Mem.head _ | assumption | refine List.Mem.tail _ ?_)))
      have e2 : @Ne Nat D5 51 := Ne.symm (off1_mem off5 (51, tabObj #[]) (by (repeat' first | exact List.Mem.head _ | assumption | refine List.Mem.tail _ ?_)))
      have e3 : @Ne Nat D5 44 := Ne.symm (off1_mem off5 (44, tabObj #[]) (by (repeat' first | exact List.Mem.head _ | assumption | refine List.Mem.tail _ ?_)))
      replace N5 := newsSub (T := (D5, W.listOf ys.toArray ys.length) :: (s1.heap.objs.size + 1, oC) :: (51, tabObj #[]) :: (44, tabObj #[]) :: []) N5 (by (repeat' first | exact List.forall_mem_nil _ | refine FMC.all ⟨by k_mem, ?_⟩ | (intro p9 hp9; (repeat' first | assumption | refine List.Mem.tail _ ?_))))
      clear off5
      dsimp only
      (repeat' ((fail_if_success (first | (with_reducible show wpAny _ _ (call (Value.ref _) _) _ _ _) | (with_reducible show wpAny _ _ (pyIter _) _ _ _) | (with_reducible show UnrPost _ _ _ _ _ _ _ _ _) | (with_reducible show wpAny _ _ (exec (Stmt.Assign _ (PySem.Expr.ListComp _ _ _ _) _) _) _ _ _) | (with_reducible show wpAny _ _ (eval (PySem.Expr.ListComp _ _ _ _) _) _ _ _) | (with_reducible show wpAny _ _ (call (Value.type "zip") _) _ _ _) | (with_reducible show MEnd _ _ _ _ _ _ _ _ _ _ _ _ _) | (with_reducible show wpAny _ _ (exec (Stmt.For _ _ _ _ _) _) _ _ _) | (with_reducible show wpAny _ _ (exec (Stmt.While _ _ _ _) _) _ _ _) | (with_reducible show wpAny _ _ (eval (PySem.Expr.IfExp _ _ _ _) _) _ _ _) | (with_reducible show wpAny _ _ (compareOp .NotEq (Value.ref _) (Value.ref _)) _ _ _))); first | (k_unfold; (try dsimp only)) | (k_end; wrow_close) | ((with_reducible show wpAny _ _ (execs (_ :: _) _) _ _ _); (with_reducible refine wpAny_execs_cons ?_); try dsimp only) | ((with_reducible show wpAny _ _ (execs [] _) _ _ _); refine wpAny_execs_nil ?_; try dsimp only) | walk1 | (dsimp only; walk1) | (leave1; walk_say "STEP leave1"; try dsimp only)))
      rename_i hP tkP Dr hQ u1 u2 u3 u4 hR FR NR
      obtain ⟨c, hc⟩ : ∃ c, r.length = c + 1 := ⟨r.length - 1, (Nat.sub_add_cancel (Nat.le_trans (by decide) hr4)).symm⟩
      have ec : ((castL r).length : Int) - 1 = (c : Int) := by rw [List.length_map, hc, Int.natCast_succ, Int.add_sub_cancel]
      rw [ec] at FR
      clear ec
      refine wpAny_grow ?_
      with_unfolding_all refine' For_invVF FR ?k1 ?k2 ?_
      case k1 => exact rfl
      case k2 => exact rfl
      (repeat' ((fail_if_success (first | (with_reducible show wpAny _ _ (call (Value.ref _) _) _ _ _) | (with_reducible show wpAny _ _ (pyIter _) _ _ _) | (with_reducible show UnrPost _ _ _ _ _ _ _ _ _) | (with_reducible show wpAny _ _ (exec (Stmt.Assign _ (PySem.Expr.ListComp _ _ _ _) _) _) _ _ _) | (with_reducible show wpAny _ _ (eval (PySem.Expr.ListComp _ _ _ _) _) _ _ _) | (with_reducible show wpAny _ _ (call (Value.type "zip") _) _ _ _) | (with_reducible show MEnd _ _ _ _ _ _ _ _ _ _ _ _ _) | (with_reducible show wpAny _ _ (exec (Stmt.For _ _ _ _ _) _) _ _ _) | (with_reducible show wpAny _ _ (exec (Stmt.While _ _ _ _) _) _ _ _) | (with_reducible show wpAny _ _ (eval (PySem.Expr.IfExp _ _ _ _) _) _ _ _) | (with_reducible show wpAny _ _ (compareOp .NotEq (Value.ref _) (Value.ref _)) _ _ _))); first | (k_unfold; (try dsimp only)) | (k_end; wrow_close) | ((with_reducible show wpAny _ _ (execs (_ :: _) _) _ _ _); (with_reducible refine wpAny_execs_cons ?_); try dsimp only) | ((with_reducible show wpAny _ _ (execs [] _) _ _ _); refine wpAny_execs_nil ?_; try dsimp only) | walk1 | (dsimp only; walk1) | (leave1; walk_say "STEP leave1"; try dsimp only)))
      (with_reducible rename News _ _ _ _ => lN)
      refine' iter_rangeUnr (n := c) (a₀ := 0) (b₀ := (c : Int)) rfl ?rg1 (small_one (by omega) (by omega) (by omega) (by omega)) ?rg2 ?Fc (newsSub (T := (Dr, W.listOf [Value.ref D5].toArray 0) :: (s1.heap.objs.size + 1, oC) :: (51, tabObj #[]) :: (44, tabObj #[]) :: [(D5, W.listOf ys.toArray ys.length)]) lN (by (repeat' first | exact List.forall_mem_nil _ | refine FMC.all ⟨by k_mem, ?_⟩ | (intro p9 hp9; (repeat' first | assumption | refine List.Mem.tail _ ?_))))) ?restc
      case rg1 => assumption
      case rg2 => rw [rangeSize_nat]; simp
      case Fc => k_asm
      case restc =>
        intro I hI
        k_lt hI
        refine RangeIndQ (RwP I (s1.heap.objs.size + 1) Dr D5 oC (tabObj #[]) (tabObj #[]) c r ys ys.length) ?turnc ?donec _ _ _ _ ?startc
        case startc => exact fun _ kk => kk [Value.ref D5] 0 [(D5, W.listOf ys.toArray ys.length)] _ rfl ⟨⟨D5, ys, _, rfl, .head _, hr⟩, True.intro⟩ (.head _) (FMC.all ⟨⟨Nat.ne_of_lt u1, e1, e2, e3, Nat.ne_of_lt (by assumption)⟩, List.forall_mem_nil _⟩) rfl rfl rfl
        case turnc =>
          intro k i m nw hP
          apply hP
          clear hP
          intro refs kk rws tc hki hrw hD5 hne e4 e5 e6 t it h9 tk9 Q9 E9 hU F9 N9
          rw [mx3 e4 e5 e6] at F9
          obtain ⟨a, ws, kw, hra, hma, hia⟩ := RowsAre.get hrw i (itR i r) (rowsL_get _ _ _ (Nat.lt_succ_self i))
          have hrl : refs.length = i + 1 := by rw [RowsAre.len hrw, rowsL_length]
          have hlast : refs[refs.length - 1]? = some (.ref a) := by rw [hrl]; exact hra
          have hpos : 0 < refs.length := by rw [hrl]; exact Nat.succ_pos _
          have hDr : ∀ q ∈ rws, q.1 ≠ Dr := fun q h => (hne q h).1
          have hcl : (castL (itR i r)).length = r.length - i := by rw [List.length_map, itR_length]
          (repeat' ((fail_if_success (first | (with_reducible show wpAny _ _ (call (Value.ref _) _) _ _ _) | (with_reducible show wpAny _ _ (pyIter _) _ _ _) | (with_reducible show UnrPost _ _ _ _ _ _ _ _ _) | (with_reducible show wpAny _ _ (exec (Stmt.Assign _ (PySem.Expr.ListComp _ _ _ _) _) _) _ _ _) | (with_reducible show wpAny _ _ (eval (PySem.Expr.ListComp _ _ _ _) _) _ _ _) | (with_reducible show wpAny _ _ (call (Value.type "zip") _) _ _ _) | (with_reducible show MEnd _ _ _ _ _ _ _ _ _ _ _ _ _) | (with_reducible show wpAny _ _ (exec (Stmt.For _ _ _ _ _) _) _ _ _) | (with_reducible show wpAny _ _ (exec (Stmt.While _ _ _ _) _) _ _ _) | (with_reducible show wpAny _ _ (eval (PySem.Expr.IfExp _ _ _ _) _) _ _ _) | (with_reducible show wpAny _ _ (compareOp .NotEq (Value.ref _) (Value.ref _)) _ _ _))); first | (k_unfold; (try dsimp only)) | (k_end; wrow_close) | ((with_reducible show wpAny _ _ (execs (_ :: _) _) _ _ _); (with_reducible refine wpAny_execs_cons ?_); try dsimp only) | ((with_reducible show wpAny _ _ (execs [] _) _ _ _); refine wpAny_execs_nil ?_; try dsimp only) | walk1 | (dsimp only; walk1) | (leave1; walk_say "STEP leave1"; try dsimp only)))
          (k_dflt (refine mc_List (ct := none) (by k_asm) (by with_unfolding_all rfl) (by decide) (by rfl) (by decide) (by rfl) (by rfl) (by decide) ?_))
          (repeat' ((fail_if_success (first | (with_reducible show wpAny _ _ (call (Value.ref _) _) _ _ _) | (with_reducible show wpAny _ _ (pyIter _) _ _ _) | (with_reducible show UnrPost _ _ _ _ _ _ _ _ _) | (with_reducible show wpAny _ _ (exec (Stmt.Assign _ (PySem.Expr.ListComp _ _ _ _) _) _) _ _ _) | (with_reducible show wpAny _ _ (eval (PySem.Expr.ListComp _ _ _ _) _) _ _ _) | (with_reducible show wpAny _ _ (call (Value.type "zip") _) _ _ _) | (with_reducible show MEnd _ _ _ _ _ _ _ _ _ _ _ _ _) | (with_reducible show wpAny _ _ (exec (Stmt.For _ _ _ _ _) _) _ _ _) | (with_reducible show wpAny _ _ (exec (Stmt.While _ _ _ _) _) _ _ _) | (with_reducible show wpAny _ _ (eval (PySem.Expr.IfExp _ _ _ _) _) _ _ _) | (with_reducible show wpAny _ _ (compareOp .NotEq (Value.ref _) (Value.ref _)) _ _ _))); first | (k_unfold; (try dsimp only)) | (k_end; wrow_close) | ((with_reducible show wpAny _ _ (execs (_ :: _) _) _ _ _); (with_reducible refine wpAny_execs_cons ?_); try dsimp only) | ((with_reducible show wpAny _ _ (execs [] _) _ _ _); refine wpAny_execs_nil ?_; try dsimp only) | ((with_reducible show wpAny _ _ (subscriptTail _ _ (Value.ref _) (Value.int (-1) _)) _ _ _); refine' my_last ?gN ?gm ?gx ?g0 ?_; (case gN => k_asm); (case gm => k_mem); (case gx => with_reducible assumption); (case g0 => with_reducible assumption)) | walk1 | (dsimp only; walk1) | (leave1; walk_say "STEP leave1"; try dsimp only)))
          rename_i D6 ws6 hS FS NS hI6 hJ6 hK6 v1 v2 v3 v4 v5 v6
          refine mc_zip (by rfl) (by k_asm) (by k_asm) (Arm.list (a := a) (vs := ws) (n := kw)) (Arm.list (a := D6) (vs := ws6) (n := 0)) (by (repeat' first | exact List.forall_mem_nil _ | refine FMC.all ⟨by k_mem, ?_⟩ | (intro p9 hp9; (repeat' first | assumption | refine List.Mem.tail _ ?_)))) (by (repeat' first | exact List.forall_mem_nil _ | refine FMC.all ⟨by k_mem, ?_⟩ | (intro p9 hp9; (repeat' first | assumption | refine List.Mem.tail _ ?_)))) rfl (by rw [List.length_zip, List.length_map, hia.length, hcl]; exact Nat.le_trans (Nat.min_le_left _ _) (le_1000 (Nat.sub_le _ _) hr10)) (fun g i0 => ?_)
          refine mrest_ints (fun x y => (-x - y).fmod 3) _ ?turnD _ _ _ _ [] [] _ (Nat.le_refl _) hia hI6 .nil ?finD
          case turnD =>
            intro x y t u its C oC D m₂ ys h tk E' hn hi hC ha hb F N off offI offC ne
            (repeat' ((fail_if_success (first | (with_reducible show wpAny _ _ (call (Value.ref _) _) _ _ _) | (with_reducible show wpAny _ _ (pyIter _) _ _ _) | (with_reducible show UnrPost _ _ _ _ _ _ _ _ _) | (with_reducible show wpAny _ _ (exec (Stmt.Assign _ (PySem.Expr.ListComp _ _ _ _) _) _) _ _ _) | (with_reducible show wpAny _ _ (eval (PySem.Expr.ListComp _ _ _ _) _) _ _ _) | (with_reducible show wpAny _ _ (call (Value.type "zip") _) _ _ _) | (with_reducible show MEnd _ _ _ _ _ _ _ _ _ _ _ _ _) | (with_reducible show wpAny _ _ (exec (Stmt.For _ _ _ _ _) _) _ _ _) | (with_reducible show wpAny _ _ (exec (Stmt.While _ _ _ _) _) _ _ _) | (with_reducible show wpAny _ _ (eval (PySem.Expr.IfExp _ _ _ _) _) _ _ _) | (with_reducible show wpAny _ _ (compareOp .NotEq (Value.ref _) (Value.ref _)) _ _ _))); first | (k_unfold; (try dsimp only)) | (k_end; wrow_close) | ((with_reducible show wpAny _ _ (execs (_ :: _) _) _ _ _); (with_reducible refine wpAny_execs_cons ?_); try dsimp only) | ((with_reducible show wpAny _ _ (execs [] _) _ _ _); refine wpAny_execs_nil ?_; try dsimp only) | ((with_reducible show wpAny _ _ (eval (PySem.Expr.Name _ _) (compEnvC _ _ _ _)) _ _ _); k_dflt (refine LCgL.ld_own (by k_asm) (by k_mem) (by assumption) (by assumption) ?_)) | walk1 | (dsimp only; walk1) | (leave1; walk_say "STEP leave1"; try dsimp only)))
            (refine MEnd.intro (by k_asm) (by k_asm) _ (fun p9 hp9 => hp9) (by with_reducible assumption) (by with_reducible assumption) ?gK9 ?_; (case gK9 => ((try simp only [List.cons_append, List.nil_append]); (repeat' first | exact List.forall_mem_nil _ | refine FMC.all ⟨by k_mem, ?_⟩ | (intro p9 hp9; (repeat' first | assumption | refine List.Mem.tail _ ?_))))))
            exact ⟨rfl, Nat.le_trans hn (by (repeat' first | exact Nat.le_refl _ | apply Nat.le_succ_of_le)), _, rfl⟩
          case finD =>
            intro n' zs hn' hz
            rw [List.nil_append, zip_next (itR_lt i hr3)] at hz
            intro D7 h7 tk7 q7 F7 N7 ne7 lt7
            k_lt lt7
            (repeat' ((fail_if_success (first | (with_reducible show wpAny _ _ (call (Value.ref _) _) _ _ _) | (with_reducible show wpAny _ _ (pyIter _) _ _ _) | (with_reducible show UnrPost _ _ _ _ _ _ _ _ _) | (with_reducible show wpAny _ _ (exec (Stmt.Assign _ (PySem.Expr.ListComp _ _ _ _) _) _) _ _ _) | (with_reducible show wpAny _ _ (eval (PySem.Expr.ListComp _ _ _ _) _) _ _ _) | (with_reducible show wpAny _ _ (call (Value.type "zip") _) _ _ _) | (with_reducible show MEnd _ _ _ _ _ _ _ _ _ _ _ _ _) | (with_reducible show wpAny _ _ (exec (Stmt.For _ _ _ _ _) _) _ _ _) | (with_reducible show wpAny _ _ (exec (Stmt.While _ _ _ _) _) _ _ _) | (with_reducible show wpAny _ _ (eval (PySem.Expr.IfExp _ _ _ _) _) _ _ _) | (with_reducible show wpAny _ _ (compareOp .NotEq (Value.ref _) (Value.ref _)) _ _ _))); first | (k_unfold; (try dsimp only)) | (k_end; wrow_close) | ((with_reducible show wpAny _ _ (execs (_ :: _) _) _ _ _); (with_reducible refine wpAny_execs_cons ?_); try dsimp only) | ((with_reducible show wpAny _ _ (execs [] _) _ _ _); refine wpAny_execs_nil ?_; try dsimp only) | walk1 | (dsimp only; walk1) | (leave1; walk_say "STEP leave1"; try dsimp only)))
            (with_reducible rename News _ _ _ _ => NZ)
            simp only [List.push_toArray] at NZ
            exact hU (by k_asm) NZ ((Dr, W.listOf (refs ++ [Value.ref D7]).toArray (kk + 1)) :: (s1.heap.objs.size + 1, oC) :: (51, tabObj #[]) :: (44, tabObj #[]) :: (D7, W.listOf zs.toArray zs.length) :: rws) (by (repeat' first | exact List.forall_mem_nil _ | refine FMC.all ⟨by k_mem, ?_⟩ | (intro p9 hp9; (repeat' first | assumption | refine List.Mem.tail _ ?_)))) (FMC.all ⟨Nat.ne_of_lt (by assumption), FMC.all ⟨Nat.ne_of_lt (by assumption), FMC.all ⟨Nat.ne_of_lt (by assumption), FMC.all ⟨Nat.ne_of_lt (by assumption), FMC.all ⟨Nat.ne_of_gt (by assumption), fun q hq => (hne q hq).2.2.2.2⟩⟩⟩⟩⟩)
              (fun _ kk9 => kk9 (refs ++ [Value.ref D7]) (kk + 1) ((D7, W.listOf zs.toArray zs.length) :: rws) tc ((Nat.succ_add_eq_add_succ k i).symm.trans hki) (by rw [rowsL_snoc (i + 1), itR_succ]; exact RowsAre.snoc (.head _) hz (RowsAre.mono (fun p hp => .tail _ hp) hrw)) (.tail _ hD5) (FMC.all ⟨⟨Nat.ne_of_gt (by assumption), Nat.ne_of_gt (by assumption), Nat.ne_of_gt (by assumption), Nat.ne_of_gt (by assumption), Nat.ne_of_gt (by assumption)⟩, hne⟩) rfl rfl rfl)
        case donec =>
          intro i m nw hP
          apply hP
          clear hP
          intro refs kk rws tc hki hrw hD5 hne e4 e5 e6 h9 tk9 F9 N9 q9
          have hp9 : 0 < tk9 := Nat.lt_of_lt_of_le (Nat.lt_of_lt_of_le hp5 (by (repeat' first | exact Nat.le_refl _ | apply Nat.le_succ_of_le))) q9
          rw [mx3 e4 e5 e6] at F9
          dsimp only
          have hic : i = c := (Nat.zero_add i).symm.trans hki
          subst hic
          have hrl : refs.length = i + 1 := by rw [RowsAre.len hrw, rowsL_length]
          have hrs : refs.toArray.size ≤ 10 := by rw [List.size_toArray, hrl, ← hc]; exact hr10
          (repeat' ((fail_if_success (first | (with_reducible show wpAny _ _ (call (Value.ref _) _) _ _ _) | (with_reducible show wpAny _ _ (pyIter _) _ _ _) | (with_reducible show UnrPost _ _ _ _ _ _ _ _ _) | (with_reducible show wpAny _ _ (exec (Stmt.Assign _ (PySem.Expr.ListComp _ _ _ _) _) _) _ _ _) | (with_reducible show wpAny _ _ (eval (PySem.Expr.ListComp _ _ _ _) _) _ _ _) | (with_reducible show wpAny _ _ (call (Value.type "zip") _) _ _ _) | (with_reducible show MEnd _ _ _ _ _ _ _ _ _ _ _ _ _) | (with_reducible show wpAny _ _ (exec (Stmt.For _ _ _ _ _) _) _ _ _) | (with_reducible show wpAny _ _ (exec (Stmt.While _ _ _ _) _) _ _ _) | (with_reducible show wpAny _ _ (eval (PySem.Expr.IfExp _ _ _ _) _) _ _ _) | (with_reducible show wpAny _ _ (compareOp .NotEq (Value.ref _) (Value.ref _)) _ _ _))); first | (k_unfold; (try dsimp only)) | (k_end; wrow_close) | ((with_reducible show wpAny _ _ (execs (_ :: _) _) _ _ _); (with_reducible refine wpAny_execs_cons ?_); try dsimp only) | ((with_reducible show wpAny _ _ (execs [] _) _ _ _); refine wpAny_execs_nil ?_; try dsimp only) | walk1 | (dsimp only; walk1) | (leave1; walk_say "STEP leave1"; try dsimp only)))
          refine wpAny_grow ?_
          (k_dflt (refine LCg.Assign_ListComp_U (F₀ := by k_asm) (by rfl) (by with_unfolding_all rfl) (by with_unfolding_all rfl) (by decide) (by rfl) (by decide) (by rfl) (by rfl) (by rfl) ?_))
          (repeat' ((fail_if_success (first | (with_reducible show wpAny _ _ (call (Value.ref _) _) _ _ _) | (with_reducible show wpAny _ _ (pyIter _) _ _ _) | (with_reducible show UnrPost _ _ _ _ _ _ _ _ _) | (with_reducible show wpAny _ _ (exec (Stmt.Assign _ (PySem.Expr.ListComp _ _ _ _) _) _) _ _ _) | (with_reducible show wpAny _ _ (eval (PySem.Expr.ListComp _ _ _ _) _) _ _ _) | (with_reducible show wpAny _ _ (call (Value.type "zip") _) _ _ _) | (with_reducible show MEnd _ _ _ _ _ _ _ _ _ _ _ _ _) | (with_reducible show wpAny _ _ (exec (Stmt.For _ _ _ _ _) _) _ _ _) | (with_reducible show wpAny _ _ (exec (Stmt.While _ _ _ _) _) _ _ _) | (with_reducible show wpAny _ _ (eval (PySem.Expr.IfExp _ _ _ _) _) _ _ _) | (with_reducible show LCg.CompSrc _ _ _ _ _ _ _ _ _ _ _ _ _ _) | (with_reducible show LCg.CompEnd _ _ _ _ _ _ _ _ _ _ _ _ _ _) | (with_reducible show wpAny _ _ (compareOp .NotEq (Value.ref _) (Value.ref _)) _ _ _))); first | (k_unfold; (try dsimp only)) | (k_end; wrow_close) | ((with_reducible show wpAny _ _ (execs (_ :: _) _) _ _ _); (with_reducible refine wpAny_execs_cons ?_); try dsimp only) | ((with_reducible show wpAny _ _ (execs [] _) _ _ _); refine wpAny_execs_nil ?_; try dsimp only) | walk1 | (dsimp only; walk1) | (leave1; walk_say "STEP leave1"; try dsimp only)))
          (refine LCg.CompSrc.ledger (by rfl) (by k_asm) (by k_asm) (by k_mem) (by first | size_fits | exact Nat.le_of_ble_eq_true rfl | (rw [PySem.sizeLine_eq]; omega)) ?_; intro _)
          refine comp_idx (fun j y => ∃ t, y = Value.str (strL (itR j r)) t) ?turnE ?finE
          case turnE =>
            intro j v I' oI C oC' D m₂ ys' h tk E' hv hC hx F N off ne
            obtain ⟨a, ws, kw, hra, hma, hia⟩ := RowsAre.get hrw j (itR j r) (rowsL_get _ _ _ (hrl ▸ (List.getElem?_eq_some_iff.mp hv).1))
            have hva : v = .ref a := Option.some.inj (hv.symm.trans hra)
            subst hva
            have hws : ws.toArray.size ≤ 10 := by rw [List.size_toArray, hia.length, List.length_map, itR_length]; exact Nat.le_trans (Nat.sub_le _ _) hr10
            (repeat' ((fail_if_success (first | (with_reducible show wpAny _ _ (call (Value.ref _) _) _ _ _) | (with_reducible show wpAny _ _ (pyIter _) _ _ _) | (with_reducible show UnrPost _ _ _ _ _ _ _ _ _) | (with_reducible show wpAny _ _ (exec (Stmt.Assign _ (PySem.Expr.ListComp _ _ _ _) _) _) _ _ _) | (with_reducible show wpAny _ _ (eval (PySem.Expr.ListComp _ _ _ _) _) _ _ _) | (with_reducible show wpAny _ _ (call (Value.type "zip") _) _ _ _) | (with_reducible show MEnd _ _ _ _ _ _ _ _ _ _ _ _ _) | (with_reducible show wpAny _ _ (exec (Stmt.For _ _ _ _ _) _) _ _ _) | (with_reducible show wpAny _ _ (exec (Stmt.While _ _ _ _) _) _ _ _) | (with_reducible show wpAny _ _ (eval (PySem.Expr.IfExp _ _ _ _) _) _ _ _) | (with_reducible show LCg.CompSrc _ _ _ _ _ _ _ _ _ _ _ _ _ _) | (with_reducible show LCg.CompEnd _ _ _ _ _ _ _ _ _ _ _ _ _ _) | (with_reducible show wpAny _ _ (compareOp .NotEq (Value.ref _) (Value.ref _)) _ _ _))); first | (k_unfold; (try dsimp only)) | (k_end; wrow_close) | ((with_reducible show wpAny _ _ (execs (_ :: _) _) _ _ _); (with_reducible refine wpAny_execs_cons ?_); try dsimp only) | ((with_reducible show wpAny _ _ (execs [] _) _ _ _); refine wpAny_execs_nil ?_; try dsimp only) | walk1 | (dsimp only; walk1) | (leave1; walk_say "STEP leave1"; try dsimp only)))
            (k_dflt (refine LCg.ListComp_U (F₀ := by k_asm) (by with_unfolding_all rfl) (by decide) (by rfl) (by decide) (by rfl) ?_))
            (repeat' ((fail_if_success (first | (with_reducible show wpAny _ _ (call (Value.ref _) _) _ _ _) | (with_reducible show wpAny _ _ (pyIter _) _ _ _) | (with_reducible show UnrPost _ _ _ _ _ _ _ _ _) | (with_reducible show wpAny _ _ (exec (Stmt.Assign _ (PySem.Expr.ListComp _ _ _ _) _) _) _ _ _) | (with_reducible show wpAny _ _ (eval (PySem.Expr.ListComp _ _ _ _) _) _ _ _) | (with_reducible show wpAny _ _ (call (Value.type "zip") _) _ _ _) | (with_reducible show MEnd _ _ _ _ _ _ _ _ _ _ _ _ _) | (with_reducible show wpAny _ _ (exec (Stmt.For _ _ _ _ _) _) _ _ _) | (with_reducible show wpAny _ _ (exec (Stmt.While _ _ _ _) _) _ _ _) | (with_reducible show wpAny _ _ (eval (PySem.Expr.IfExp _ _ _ _) _) _ _ _) | (with_reducible show LCg.CompSrc _ _ _ _ _ _ _ _ _ _ _ _ _ _) | (with_reducible show LCg.CompEnd _ _ _ _ _ _ _ _ _ _ _ _ _ _) | (with_reducible show wpAny _ _ (compareOp .NotEq (Value.ref _) (Value.ref _)) _ _ _))); first | (k_unfold; (try dsimp only)) | (k_end; wrow_close) | ((with_reducible show wpAny _ _ (execs (_ :: _) _) _ _ _); (with_reducible refine wpAny_execs_cons ?_); try dsimp only) | ((with_reducible show wpAny _ _ (execs [] _) _ _ _); refine wpAny_execs_nil ?_; try dsimp only) | ((with_reducible show wpAny _ _ (eval (PySem.Expr.Name _ _) (compEnvC _ _ _ _)) _ _ _); k_dflt (refine LCgL.ld_own (by k_asm) (by k_mem) (by assumption) (by assumption) ?_)) | walk1 | (dsimp only; walk1) | (leave1; walk_say "STEP leave1"; try dsimp only)))
            (refine LCg.CompSrc.ledger (by rfl) (by k_asm) (by k_asm) (by k_mem) (by first | size_fits | exact Nat.le_of_ble_eq_true rfl | (rw [PySem.sizeLine_eq]; omega)) ?_; intro _)
            with_unfolding_all refine kct_list letJ hia ?turnF ?finF
            case turnF =>
              intro k t I2 oI2 C2 oC2 D2 m₃ ys2 h2 tk2 E2 hk2 hC2 hx2 F2 N2 off2 ne2 mk2
              rcases cast3 (itR_lt j hr3) hk2 with rfl | rfl | rfl
              all_goals
                (repeat' ((fail_if_success (first | (with_reducible show wpAny _ _ (call (Value.ref _) _) _ _ _) | (with_reducible show wpAny _ _ (pyIter _) _ _ _) | (with_reducible show UnrPost _ _ _ _ _ _ _ _ _) | (with_reducible show wpAny _ _ (exec (Stmt.Assign _ (PySem.Expr.ListComp _ _ _ _) _) _) _ _ _) | (with_reducible show wpAny _ _ (eval (PySem.Expr.ListComp _ _ _ _) _) _ _ _) | (with_reducible show wpAny _ _ (call (Value.type "zip") _) _ _ _) | (with_reducible show MEnd _ _ _ _ _ _ _ _ _ _ _ _ _) | (with_reducible show wpAny _ _ (exec (Stmt.For _ _ _ _ _) _) _ _ _) | (with_reducible show wpAny _ _ (exec (Stmt.While _ _ _ _) _) _ _ _) | (with_reducible show wpAny _ _ (eval (PySem.Expr.IfExp _ _ _ _) _) _ _ _) | (with_reducible show LCg.CompSrc _ _ _ _ _ _ _ _ _ _ _ _ _ _) | (with_reducible show LCg.CompEnd _ _ _ _ _ _ _ _ _ _ _ _ _ _) | (with_reducible show wpAny _ _ (compareOp .NotEq (Value.ref _) (Value.ref _)) _ _ _))); first | (k_unfold; (try dsimp only)) | (k_end; wrow_close) | ((with_reducible show wpAny _ _ (execs (_ :: _) _) _ _ _); (with_reducible refine wpAny_execs_cons ?_); try dsimp only) | ((with_reducible show wpAny _ _ (execs [] _) _ _ _); refine wpAny_execs_nil ?_; try dsimp only) | ((with_reducible show wpAny _ _ (eval (PySem.Expr.Name _ _) (compEnvC _ _ _ _)) _ _ _); k_dflt (refine LCgL.ld_own (by k_asm) (by k_mem) (by assumption) (by assumption) ?_)) | walk1 | (dsimp only; walk1) | (leave1; walk_say "STEP leave1"; try dsimp only)))
                exact LCg.CompEnd.intro F2 N2 _ (fun p hp => hp) off2 (.inr ⟨_, by (repeat' first | exact List.Mem.head _ | assumption | refine List.Mem.tail _ ?_), rfl, _, rfl⟩) ⟨rfl, _, rfl⟩
            case finF =>
              intro ys2 hc2 hlen2
              intro D2 h2 tk2 F2 N2 off2
              (repeat' ((fail_if_success (first | (with_reducible show wpAny _ _ (call (Value.ref _) _) _ _ _) | (with_reducible show wpAny _ _ (pyIter _) _ _ _) | (with_reducible show UnrPost _ _ _ _ _ _ _ _ _) | (with_reducible show wpAny _ _ (exec (Stmt.Assign _ (PySem.Expr.ListComp _ _ _ _) _) _) _ _ _) | (with_reducible show wpAny _ _ (eval (PySem.Expr.ListComp _ _ _ _) _) _ _ _) | (with_reducible show wpAny _ _ (call (Value.type "zip") _) _ _ _) | (with_reducible show MEnd _ _ _ _ _ _ _ _ _ _ _ _ _) | (with_reducible show wpAny _ _ (exec (Stmt.For _ _ _ _ _) _) _ _ _) | (with_reducible show wpAny _ _ (exec (Stmt.While _ _ _ _) _) _ _ _) | (with_reducible show wpAny _ _ (eval (PySem.Expr.IfExp _ _ _ _) _) _ _ _) | (with_reducible show LCg.CompSrc _ _ _ _ _ _ _ _ _ _ _ _ _ _) | (with_reducible show LCg.CompEnd _ _ _ _ _ _ _ _ _ _ _ _ _ _) | (with_reducible show wpAny _ _ (compareOp .NotEq (Value.ref _) (Value.ref _)) _ _ _))); first | (k_unfold; (try dsimp only)) | (k_end; wrow_close) | ((with_reducible show wpAny _ _ (execs (_ :: _) _) _ _ _); (with_reducible refine wpAny_execs_cons ?_); try dsimp only) | ((with_reducible show wpAny _ _ (execs [] _) _ _ _); refine wpAny_execs_nil ?_; try dsimp only) | walk1 | (dsimp only; walk1) | (leave1; walk_say "STEP leave1"; try dsimp only)))
              exact LCg.CompEnd.intro F2 N2 _ (fun p hp => .tail _ hp) off (.inr ⟨_, .head _, rfl, _, rfl⟩) ⟨rfl, _, by rw [join_lets]⟩
          case finE =>
            intro ys' hl' hy'
            have hst := told_strs (hl'.trans hrl) hy'
            obtain ⟨ts, hts⟩ : ∃ ts, ys'[(0 : Int).toNat]? = some (.str (strL r) ts) := StrsAre.at hst (j := 0) (by rw [List.getElem?_map, rowsL_get _ _ _ (Nat.succ_pos _)]; rfl)
            intro D8 h8 tk8 F8 N8 off8 q8
            have hp8 : 0 < tk8 := Nat.lt_of_lt_of_le (Nat.lt_of_lt_of_le hp9 (by (repeat' first | exact Nat.le_refl _ | apply Nat.le_succ_of_le))) q8
            dsimp only
            (repeat' ((fail_if_success (first | (with_reducible show wpAny _ _ (call (Value.ref _) _) _ _ _) | (with_reducible show wpAny _ _ (pyIter _) _ _ _) | (with_reducible show UnrPost _ _ _ _ _ _ _ _ _) | (with_reducible show wpAny _ _ (exec (Stmt.Assign _ (PySem.Expr.ListComp _ _ _ _) _) _) _ _ _) | (with_reducible show wpAny _ _ (eval (PySem.Expr.ListComp _ _ _ _) _) _ _ _) | (with_reducible show wpAny _ _ (call (Value.type "zip") _) _ _ _) | (with_reducible show MEnd _ _ _ _ _ _ _ _ _ _ _ _ _) | (with_reducible show wpAny _ _ (exec (Stmt.For _ _ _ _ _) _) _ _ _) | (with_reducible show wpAny _ _ (exec (Stmt.While _ _ _ _) _) _ _ _) | (with_reducible show wpAny _ _ (eval (PySem.Expr.IfExp _ _ _ _) _) _ _ _) | (with_reducible show wpAny _ _ (compareOp .NotEq (Value.ref _) (Value.ref _)) _ _ _))); first | (k_unfold; (try dsimp only)) | (k_end; wrow_close) | ((with_reducible show wpAny _ _ (execs (_ :: _) _) _ _ _); (with_reducible refine wpAny_execs_cons ?_); try dsimp only) | ((with_reducible show wpAny _ _ (execs [] _) _ _ _); refine wpAny_execs_nil ?_; try dsimp only) | ((with_reducible show wpAny _ _ (subscriptTail _ _ (Value.ref _) (Value.int 0 _)) _ _ _); refine' my_at ?gN ?gm ?g0 ?g1 ?gx ?_; (case gN => k_asm); (case gm => k_mem); (case g0 => decide); (case g1 => decide); (case gx => with_reducible assumption)) | ((with_reducible show wpAny _ _ (callWith _ (Value.ref _) _ _ _) _ _ _); (k_here; (k_dflt (refine' callWith_K ?k1 ?k2 ?_; (case k1 => k_asm); (case k2 => k_is); k_whole)))) | walk1 | (dsimp only; walk1) | (leave1; walk_say "STEP leave1"; try dsimp only)))
            refine wpAny_grow ?_
            refine' (bytext (w := w) r hr3 (by omega) hr10 _).use (K := K03) ?B7 ?F7 ?X7 ?N7 ?T7 ?eH7 rfl ?hd7 ?hu7 ?_
            case N7 => k_asm
            case eH7 => exact ⟨by assumption, by assumption⟩
            case B7 => k_asm
            case F7 => k_asm
            case X7 => k_asm
            case T7 => k_asm
            case hd7 => ktr_room
            case hu7 => ktr_units
            intro ws9 D9 k9 hw9 l9 hh9 tkk9 F9 N9 qq9
            k_lt l9
            rw [hc] at hw9
            walk1
            refine ne_strs (ss := (rowsL (i + 1) r).map strL) (n := k9) (m := ys'.length) N9 (.head _) (.tail _ (.head _)) hw9 hst (by ke_room) ?_
            replace N9 := newsSub (T := (Dr, W.listOf refs.toArray kk) :: (s1.heap.objs.size + 1, oC) :: (51, tabObj #[]) :: (44, tabObj #[]) :: rws) N9 (fun p hp => .tail _ (.tail _ hp))
            walk1
            have hpos : 0 < refs.length := by rw [hrl]; exact Nat.succ_pos _
            have hi10 : i < 10 := by have h9 := hr10; rw [hc] at h9; exact h9
            have hpt : 0 < tkk9 := Nat.lt_of_lt_of_le (Nat.succ_pos tk8) qq9
            clear qq9 hp8 q8 hp9 q9 l9 off8 hw9 hst
            have kp := And.intro hi10 (And.intro hr4 (And.intro hr10 (And.intro hpt (And.intro hpos (And.intro u1 (And.intro u2 (And.intro u3 (And.intro u4 (And.intro q51 (And.intro q44 (And.intro F9 N9)))))))))))
            repeat (with_reducible rename News _ _ _ _ => zz; clear zz)
            repeat (with_reducible rename Fr _ _ _ _ => zz; clear zz)
            repeat (with_reducible rename AllLt _ _ => zz; clear zz)
            repeat (with_reducible rename @LT.lt Nat _ _ _ => zz; clear zz)
            repeat (with_reducible rename @LT.lt Addr _ _ _ => zz; clear zz)
            repeat (with_reducible rename @LE.le Nat _ _ _ => zz; clear zz)
            repeat (with_reducible rename LCg.Off1 _ _ => zz; clear zz)
            repeat (with_reducible rename LCg.Off3 _ _ _ _ => zz; clear zz)
            obtain ⟨hi10, hr4, hr10, hpt, hpos, u1, u2, u3, u4, q51, q44, F9, N9⟩ := kp
            have hLc : ∀ q ∈ rws, q.1 ≠ s1.heap.objs.size + 1 := fun q h => (hne q h).2.1
            (repeat' ((fail_if_success (first | (with_reducible show wpAny _ _ (call (Value.ref _) _) _ _ _) | (with_reducible show wpAny _ _ (pyIter _) _ _ _) | (with_reducible show UnrPost _ _ _ _ _ _ _ _ _) | (with_reducible show wpAny _ _ (exec (Stmt.Assign _ (PySem.Expr.ListComp _ _ _ _) _) _) _ _ _) | (with_reducible show wpAny _ _ (eval (PySem.Expr.ListComp _ _ _ _) _) _ _ _) | (with_reducible show wpAny _ _ (call (Value.type "zip") _) _ _ _) | (with_reducible show MEnd _ _ _ _ _ _ _ _ _ _ _ _ _) | (with_reducible show wpAny _ _ (exec (Stmt.For _ _ _ _ _) _) _ _ _) | (with_reducible show wpAny _ _ (exec (Stmt.While _ _ _ _) _) _ _ _) | (with_reducible show wpAny _ _ (eval (PySem.Expr.IfExp _ _ _ _) _) _ _ _) | (with_reducible show wpAny _ _ (compareOp .NotEq (Value.ref _) (Value.ref _)) _ _ _))); first | (k_unfold; (try dsimp only)) | (k_end; wrow_close) | ((with_reducible show wpAny _ _ (execs (_ :: _) _) _ _ _); (with_reducible refine wpAny_execs_cons ?_); try dsimp only) | ((with_reducible show wpAny _ _ (execs [] _) _ _ _); refine wpAny_execs_nil ?_; try dsimp only) | ((with_reducible show wpAny _ _ (newTuple _) _ _ _); (k_dflt (refine' kup_newTuple ?gF9 ?gN9 ?_ ?gz9; (case gF9 => k_asm); (case gN9 => k_asm); (case gz9 => exact Nat.le_of_ble_eq_true rfl)); intro _ _ _ _; walk_at "MINE ltI")) | walk1 | (dsimp only; walk1) | (leave1; walk_say "STEP leave1"; try dsimp only)))
            rename_i c0 g0 a01 a02 a03 a04 a05 c1 g1 a11 a12 a13 a14 a15 a16 c2 g2 a21 a22 a23 a24 a25 a26 a27 ct g3 a31 a32 a33 a34 a35 a36 a37 a38 g4 oK FK NK dK
            replace NK := newsSub (T := (ct, W.listOf [Value.ref c0, Value.ref c1, Value.ref c2].toArray 0) :: (Dr, W.listOf refs.toArray kk) :: (s1.heap.objs.size + 1, oK) :: (51, tabObj #[]) :: (44, tabObj #[]) :: (CL tkk9 c0 c1 c2 ++ rws)) NK (FMC.all ⟨.head _, FMC.all ⟨.tail _ (.tail _ (.tail _ (.tail _ (.head _)))), FMC.all ⟨.tail _ (.tail _ (.tail _ (.tail _ (.tail _ (.head _))))), FMC.all ⟨.tail _ (.tail _ (.tail _ (.tail _ (.tail _ (.tail _ (.head _)))))), FMC.all ⟨.tail _ (.tail _ (.tail _ (.tail _ (.tail _ (.tail _ (.tail _ (.head _))))))), FMC.all ⟨.tail _ (.head _), FMC.all ⟨.tail _ (.tail _ (.head _)), FMC.all ⟨.tail _ (.tail _ (.tail _ (.head _))), fun p hp => .tail _ (.tail _ (.tail _ (.tail _ (.tail _ (.tail _ (.tail _ (.tail _ hp)))))))⟩⟩⟩⟩⟩⟩⟩⟩)
            refine wpAny_grow ?_
            (k_dflt (refine LCg.Assign_ListComp_U (F₀ := by k_asm) (by rfl) (by with_unfolding_all rfl) (by with_unfolding_all rfl) (by decide) (by rfl) (by decide) (by rfl) (by rfl) (by rfl) ?_))
            (repeat' ((fail_if_success (first | (with_reducible show wpAny _ _ (call (Value.ref _) _) _ _ _) | (with_reducible show wpAny _ _ (pyIter _) _ _ _) | (with_reducible show UnrPost _ _ _ _ _ _ _ _ _) | (with_reducible show wpAny _ _ (exec (Stmt.Assign _ (PySem.Expr.ListComp _ _ _ _) _) _) _ _ _) | (with_reducible show wpAny _ _ (eval (PySem.Expr.ListComp _ _ _ _) _) _ _ _) | (with_reducible show wpAny _ _ (call (Value.type "zip") _) _ _ _) | (with_reducible show MEnd _ _ _ _ _ _ _ _ _ _ _ _ _) | (with_reducible show wpAny _ _ (exec (Stmt.For _ _ _ _ _) _) _ _ _) | (with_reducible show wpAny _ _ (exec (Stmt.While _ _ _ _) _) _ _ _) | (with_reducible show wpAny _ _ (eval (PySem.Expr.IfExp _ _ _ _) _) _ _ _) | (with_reducible show LCg.CompSrc _ _ _ _ _ _ _ _ _ _ _ _ _ _) | (with_reducible show LCg.CompEnd _ _ _ _ _ _ _ _ _ _ _ _ _ _) | (with_reducible show wpAny _ _ (compareOp .NotEq (Value.ref _) (Value.ref _)) _ _ _))); first | (k_unfold; (try dsimp only)) | (k_end; wrow_close) | ((with_reducible show wpAny _ _ (execs (_ :: _) _) _ _ _); (with_reducible refine wpAny_execs_cons ?_); try dsimp only) | ((with_reducible show wpAny _ _ (execs [] _) _ _ _); refine wpAny_execs_nil ?_; try dsimp only) | walk1 | (dsimp only; walk1) | (leave1; walk_say "STEP leave1"; try dsimp only)))
            (refine LCg.CompSrc.ledger (by rfl) (by k_asm) (by k_asm) (by k_mem) (by first | size_fits | exact Nat.le_of_ble_eq_true rfl | (rw [PySem.sizeLine_eq]; omega)) ?_; intro _)
            refine comp_idx (fun j y => ∃ k, r[j]? = some k ∧ y = .ref (cA c0 c1 c2 k)) ?turnG ?finG
            case turnG =>
              intro j v I' oI C oC' D m₂ ys' h tk E' hv hC hx F N off ne
              obtain ⟨k, tq, hk, rfl⟩ := ints_get hr hv
              have hget := cA_get (c0 := c0) (c1 := c1) (c2 := c2) (hr3 k (List.mem_of_getElem? hk))
              have hkz : k < 3 := hr3 k (List.mem_of_getElem? hk)
              have hk0 := Int.natCast_nonneg k
              have hk63 := k_63 hkz
              (repeat' ((fail_if_success (first | (with_reducible show wpAny _ _ (call (Value.ref _) _) _ _ _) | (with_reducible show wpAny _ _ (pyIter _) _ _ _) | (with_reducible show UnrPost _ _ _ _ _ _ _ _ _) | (with_reducible show wpAny _ _ (exec (Stmt.Assign _ (PySem.Expr.ListComp _ _ _ _) _) _) _ _ _) | (with_reducible show wpAny _ _ (eval (PySem.Expr.ListComp _ _ _ _) _) _ _ _) | (with_reducible show wpAny _ _ (call (Value.type "zip") _) _ _ _) | (with_reducible show MEnd _ _ _ _ _ _ _ _ _ _ _ _ _) | (with_reducible show wpAny _ _ (exec (Stmt.For _ _ _ _ _) _) _ _ _) | (with_reducible show wpAny _ _ (exec (Stmt.While _ _ _ _) _) _ _ _) | (with_reducible show wpAny _ _ (eval (PySem.Expr.IfExp _ _ _ _) _) _ _ _) | (with_reducible show LCg.CompSrc _ _ _ _ _ _ _ _ _ _ _ _ _ _) | (with_reducible show LCg.CompEnd _ _ _ _ _ _ _ _ _ _ _ _ _ _) | (with_reducible show wpAny _ _ (compareOp .NotEq (Value.ref _) (Value.ref _)) _ _ _))); first | (k_unfold; (try dsimp only)) | (k_end; wrow_close) | ((with_reducible show wpAny _ _ (execs (_ :: _) _) _ _ _); (with_reducible refine wpAny_execs_cons ?_); try dsimp only) | ((with_reducible show wpAny _ _ (execs [] _) _ _ _); refine wpAny_execs_nil ?_; try dsimp only) | ((with_reducible show wpAny _ _ (subscriptTail _ _ (Value.ref _) (Value.int _ _)) _ _ _); refine' my_at ?gN ?gm ?g0 ?g1 ?gx ?_; (case gN => k_asm); (case gm => k_mem); (case g0 => with_reducible assumption); (case g1 => with_reducible assumption); (case gx => with_reducible assumption)) | ((with_reducible show wpAny _ _ (eval (PySem.Expr.Name _ _) (compEnvC _ _ _ _)) _ _ _); k_dflt (refine LCgL.ld_own (by k_asm) (by k_mem) (by assumption) (by assumption) ?_)) | walk1 | (dsimp only; walk1) | (leave1; walk_say "STEP leave1"; try dsimp only)))
              exact LCg.CompEnd.intro F N _ (fun p hp => hp) off (.inr ⟨_, .tail _ (.tail _ (.tail _ (.tail _ (.tail _ (List.mem_append_right _ hD5))))), rfl, _, rfl⟩) ⟨rfl, k, hk, rfl⟩
            case finG =>
              intro us hlu hyu
              intro Dc h8 tk8 F8 N8 off8 q8
              dsimp only at q8
              have hC8 : Cols (CL tkk9 c0 c1 c2) tk8 us r := cols_three hpt q8 (hlu.trans (ints_len hr)) hr3 hyu
              have e51 : ∀ q ∈ CL tkk9 c0 c1 c2, @LT.lt Nat _ 51 q.1 := FMC.all ⟨by assumption, FMC.all ⟨by assumption, FMC.all ⟨by assumption, List.forall_mem_nil _⟩⟩⟩
              have m51 : ∀ q ∈ (ct, W.listOf [Value.ref c0, Value.ref c1, Value.ref c2].toArray 0) :: (Dr, W.listOf refs.toArray kk) :: (s1.heap.objs.size + 1, oK) :: (CL tkk9 c0 c1 c2 ++ rws), q.1 ≠ 51 := FMC.all ⟨Nat.ne_of_gt (by assumption), FMC.all ⟨Nat.ne_of_gt u3, FMC.all ⟨Nat.ne_of_gt (Nat.lt_succ_of_lt q51), fun q hq => (List.mem_append.mp hq).elim (fun h => Nat.ne_of_gt (e51 q h)) (fun h => (hne q h).2.2.1)⟩⟩⟩
              have m44 : ∀ q ∈ (ct, W.listOf [Value.ref c0, Value.ref c1, Value.ref c2].toArray 0) :: (Dr, W.listOf refs.toArray kk) :: (s1.heap.objs.size + 1, oK) :: (CL tkk9 c0 c1 c2 ++ rws), q.1 ≠ 44 := FMC.all ⟨Nat.ne_of_gt (by assumption), FMC.all ⟨Nat.ne_of_gt u4, FMC.all ⟨Nat.ne_of_gt (Nat.lt_succ_of_lt q44), fun q hq => (List.mem_append.mp hq).elim (fun h => Nat.ne_of_gt (Nat.lt_trans (by decide : 44 < 51) (e51 q h))) (fun h => (hne q h).2.2.2.1)⟩⟩⟩
              have hDc51 : @Ne Nat Dc 51 := Ne.symm (off1_mem off8 (51, tabObj #[]) (.tail _ (.tail _ (.tail _ (.head _)))))
              have hDc44 : @Ne Nat Dc 44 := Ne.symm (off1_mem off8 (44, tabObj #[]) (.tail _ (.tail _ (.tail _ (.tail _ (.head _))))))
              clear off8
              dsimp only
              (repeat' ((fail_if_success (first | (with_reducible show wpAny _ _ (call (Value.ref _) _) _ _ _) | (with_reducible show wpAny _ _ (pyIter _) _ _ _) | (with_reducible show UnrPost _ _ _ _ _ _ _ _ _) | (with_reducible show wpAny _ _ (exec (Stmt.Assign _ (PySem.Expr.ListComp _ _ _ _) _) _) _ _ _) | (with_reducible show wpAny _ _ (eval (PySem.Expr.ListComp _ _ _ _) _) _ _ _) | (with_reducible show wpAny _ _ (call (Value.type "zip") _) _ _ _) | (with_reducible show MEnd _ _ _ _ _ _ _ _ _ _ _ _ _) | (with_reducible show wpAny _ _ (exec (Stmt.For _ _ _ _ _) _) _ _ _) | (with_reducible show wpAny _ _ (exec (Stmt.While _ _ _ _) _) _ _ _) | (with_reducible show wpAny _ _ (eval (PySem.Expr.IfExp _ _ _ _) _) _ _ _) | (with_reducible show wpAny _ _ (compareOp .NotEq (Value.ref _) (Value.ref _)) _ _ _))); first | (k_unfold; (try dsimp only)) | (k_end; wrow_close) | ((with_reducible show wpAny _ _ (execs (_ :: _) _) _ _ _); (with_reducible refine wpAny_execs_cons ?_); try dsimp only) | ((with_reducible show wpAny _ _ (execs [] _) _ _ _); refine wpAny_execs_nil ?_; try dsimp only) | walk1 | (dsimp only; walk1) | (leave1; walk_say "STEP leave1"; try dsimp only)))
              refine wpAny_For ?_
              (repeat' ((fail_if_success (first | (with_reducible show wpAny _ _ (call (Value.ref _) _) _ _ _) | (with_reducible show wpAny _ _ (pyIter _) _ _ _) | (with_reducible show UnrPost _ _ _ _ _ _ _ _ _) | (with_reducible show wpAny _ _ (exec (Stmt.Assign _ (PySem.Expr.ListComp _ _ _ _) _) _) _ _ _) | (with_reducible show wpAny _ _ (eval (PySem.Expr.ListComp _ _ _ _) _) _ _ _) | (with_reducible show wpAny _ _ (call (Value.type "zip") _) _ _ _) | (with_reducible show MEnd _ _ _ _ _ _ _ _ _ _ _ _ _) | (with_reducible show wpAny _ _ (exec (Stmt.For _ _ _ _ _) _) _ _ _) | (with_reducible show wpAny _ _ (exec (Stmt.While _ _ _ _) _) _ _ _) | (with_reducible show wpAny _ _ (eval (PySem.Expr.IfExp _ _ _ _) _) _ _ _) | (with_reducible show wpAny _ _ (compareOp .NotEq (Value.ref _) (Value.ref _)) _ _ _))); first | (k_unfold; (try dsimp only)) | (k_end; wrow_close) | ((with_reducible show wpAny _ _ (execs (_ :: _) _) _ _ _); (with_reducible refine wpAny_execs_cons ?_); try dsimp only) | ((with_reducible show wpAny _ _ (execs [] _) _ _ _); refine wpAny_execs_nil ?_; try dsimp only) | ((with_reducible show wpAny _ _ (callWith _ (Value.ref _) _ _ _) _ _ _); (k_here; (k_dflt (refine' callWith_K ?k1 ?k2 ?_; (case k1 => k_asm); (case k2 => k_is); k_whole)))) | walk1 | (dsimp only; walk1) | (leave1; walk_say "STEP leave1"; try dsimp only)))
              refine wpAny_grow ?_
              refine' (leaps (w := w) (T0 := []) (news := (Dc, W.listOf us.toArray us.length) :: (ct, W.listOf [Value.ref c0, Value.ref c1, Value.ref c2].toArray 0) :: (Dr, W.listOf refs.toArray kk) :: (s1.heap.objs.size + 1, oK) :: (CL tkk9 c0 c1 c2 ++ rws)) i (Nat.le_of_lt_succ hi10) _ (FMC.all ⟨hDc44, m44⟩) (FMC.all ⟨hDc51, m51⟩) _ _ (.inl rfl) (.inl rfl) (List.forall_mem_nil _)).use (K := K03) ?B8 ?F8 ?X8 ?N8 ?T8 ?eH8 rfl ?hd8 ?hu8 ?_
              case N8 => exact newsSub (by k_asm) (FMC.all ⟨.tail _ (.tail _ (.tail _ (.tail _ (.tail _ (.head _))))), FMC.all ⟨.tail _ (.tail _ (.tail _ (.tail _ (.head _)))), FMC.all ⟨.head _, FMC.all ⟨.tail _ (.head _), FMC.all ⟨.tail _ (.tail _ (.head _)), FMC.all ⟨.tail _ (.tail _ (.tail _ (.head _))), fun p hp => .tail _ (.tail _ (.tail _ (.tail _ (.tail _ (.tail _ hp)))))⟩⟩⟩⟩⟩⟩)
              case eH8 => exact ⟨by assumption, by assumption⟩
              case B8 => k_asm
              case F8 => k_asm
              case X8 => k_asm
              case T8 => k_asm
              case hd8 => ktr_room
              case hu8 => ktr_units
              intro lv Dl kl o44 o51 ext hlv h44 h51 hext hL9 tkL FL NL
              intro qqL
              replace qqL : tk8 + 1 + 1 ≤ tkL := qqL
              have hl1 := (leapsL_ok i hi10).1
              replace NL := newsSub (T := (Dc, W.listOf us.toArray us.length) :: ([(Dl, W.listOf lv.toArray kl), (44, o44), (51, o51), (ct, W.listOf [Value.ref c0, Value.ref c1, Value.ref c2].toArray 0), (Dr, W.listOf refs.toArray kk), (s1.heap.objs.size + 1, oK)] ++ (CL tkk9 c0 c1 c2 ++ (CL tkk9 c0 c1 c2 ++ (ext ++ rws))))) NL
                (FMC.all ⟨.tail _ (.tail _ (.tail _ (List.mem_append_right _ (.head _)))), FMC.all ⟨.head _, FMC.all ⟨.tail _ (.head _), FMC.all ⟨.tail _ (.tail _ (.head _)), FMC.all ⟨.tail _ (.tail _ (.tail _ (List.mem_append_right _ (.tail _ (.head _))))), FMC.all ⟨.tail _ (.tail _ (.tail _ (List.mem_append_right _ (.tail _ (.tail _ (.head _)))))), FMC.all ⟨.tail _ (.tail _ (.tail _ (List.mem_append_right _ (.tail _ (.tail _ (.tail _ (.head _))))))), clSub⟩⟩⟩⟩⟩⟩⟩)
              refine iter_listG rfl FL NL (.tail _ (.head _)) rfl rfl (by first | passes_own | with_unfolding_all passes_own) (fun I hI => ?_)
              refine GRestInd (LmP I [(Dl, W.listOf lv.toArray kl), (44, o44), (51, o51), (ct, W.listOf [Value.ref c0, Value.ref c1, Value.ref c2].toArray 0), (Dr, W.listOf refs.toArray kk), (s1.heap.objs.size + 1, oK)] (CL tkk9 c0 c1 c2 ++ (ext ++ rws)) Dr D5 i r) ?turnL ?doneL _ _ _ _ ?startL
              case startL => exact fun _ kk9 => kk9 (leapsL i) 0 Dc us us.length (CL tkk9 c0 c1 c2) tc _ hlv hl1 (by rw [(leapsL_ok i hi10).2]; exact Int.zero_add _) (Cols.mono (n := tk8) (fun p hp => hp) (Nat.le_trans (Nat.le_add_right tk8 2) qqL) hC8) (Nat.lt_of_lt_of_le (Nat.succ_pos (tk8 + 1)) qqL) (fun p hp => Nat.ne_of_lt (hI p (.tail _ (List.mem_append_right _ (List.mem_append_left _ hp))))) (Nat.ne_of_lt (hI _ (.head _))) rfl rfl rfl rfl rfl
              case turnL =>
                intro v vr n m nw hP
                apply hP
                clear hP
                intro ls d Dc us kc cs tc td hls h139 hsum hC hn hcs hDc z1 z2 z3 z4 z5 it h9 tk9 Q9 q9 hU F9 N9
                obtain ⟨e, te, ls', rfl, he, hls', h139', hsum', hdi⟩ := leap_nat hls h139 hsum
                clear hsum h139 hls
                rw [mx5 z1 z2 z3 z4 z5] at F9
                simp only [List.cons_append, List.nil_append] at N9
                obtain ⟨a, ws, kw, hra, hma, hia⟩ := RowsAre.get hrw (d + e) (itR (d + e) r) (rowsL_get _ _ _ (Nat.lt_succ_of_le hdi))
                have hra' : refs[((d : Int) + (e : Int)).toNat]? = some (.ref a) := hra
                have he9 : e ≤ 9 := leap_9 he
                have hde0 := de_nn d e
                have hde9 := de_63 hdi hi10
                have hul : us.length = (itR d r).length := hC.1
                have hdl : (itR d r).length = r.length - d := itR_length d r
                have hw10 : ws.toArray.size ≤ 10 := by rw [List.size_toArray, hia.length, List.length_map, itR_length]; exact Nat.le_trans (Nat.sub_le _ _) hr10
                (repeat' ((fail_if_success (first | (with_reducible show wpAny _ _ (call (Value.ref _) _) _ _ _) | (with_reducible show wpAny _ _ (pyIter _) _ _ _) | (with_reducible show UnrPost _ _ _ _ _ _ _ _ _) | (with_reducible show wpAny _ _ (exec (Stmt.Assign _ (PySem.Expr.ListComp _ _ _ _) _) _) _ _ _) | (with_reducible show wpAny _ _ (eval (PySem.Expr.ListComp _ _ _ _) _) _ _ _) | (with_reducible show wpAny _ _ (call (Value.type "zip") _) _ _ _) | (with_reducible show MEnd _ _ _ _ _ _ _ _ _ _ _ _ _) | (with_reducible show wpAny _ _ (exec (Stmt.For _ _ _ _ _) _) _ _ _) | (with_reducible show wpAny _ _ (exec (Stmt.While _ _ _ _) _) _ _ _) | (with_reducible show wpAny _ _ (eval (PySem.Expr.IfExp _ _ _ _) _) _ _ _) | (with_reducible show wpAny _ _ (compareOp .NotEq (Value.ref _) (Value.ref _)) _ _ _))); first | (k_unfold; (try dsimp only)) | (k_end; wrow_close) | ((with_reducible show wpAny _ _ (execs (_ :: _) _) _ _ _); (with_reducible refine wpAny_execs_cons ?_); try dsimp only) | ((with_reducible show wpAny _ _ (execs [] _) _ _ _); refine wpAny_execs_nil ?_; try dsimp only) | walk1 | (dsimp only; walk1) | (leave1; walk_say "STEP leave1"; try dsimp only)))
                (k_dflt (refine mc_Assign (ct := none) (by k_asm) (by rfl) (by with_unfolding_all rfl) (by with_unfolding_all rfl) (by decide) (by rfl) (by decide) (by rfl) (by rfl) (by decide) (by rfl) (by rfl) ?_))
                (repeat' ((fail_if_success (first | (with_reducible show wpAny _ _ (call (Value.ref _) _) _ _ _) | (with_reducible show wpAny _ _ (pyIter _) _ _ _) | (with_reducible show UnrPost _ _ _ _ _ _ _ _ _) | (with_reducible show wpAny _ _ (exec (Stmt.Assign _ (PySem.Expr.ListComp _ _ _ _) _) _) _ _ _) | (with_reducible show wpAny _ _ (eval (PySem.Expr.ListComp _ _ _ _) _) _ _ _) | (with_reducible show wpAny _ _ (call (Value.type "zip") _) _ _ _) | (with_reducible show MEnd _ _ _ _ _ _ _ _ _ _ _ _ _) | (with_reducible show wpAny _ _ (exec (Stmt.For _ _ _ _ _) _) _ _ _) | (with_reducible show wpAny _ _ (exec (Stmt.While _ _ _ _) _) _ _ _) | (with_reducible show wpAny _ _ (eval (PySem.Expr.IfExp _ _ _ _) _) _ _ _) | (with_reducible show wpAny _ _ (compareOp .NotEq (Value.ref _) (Value.ref _)) _ _ _))); first | (k_unfold; (try dsimp only)) | (k_end; wrow_close) | ((with_reducible show wpAny _ _ (execs (_ :: _) _) _ _ _); (with_reducible refine wpAny_execs_cons ?_); try dsimp only) | ((with_reducible show wpAny _ _ (execs [] _) _ _ _); refine wpAny_execs_nil ?_; try dsimp only) | walk1 | (dsimp only; walk1) | (leave1; walk_say "STEP leave1"; try dsimp only)))
                (with_reducible rename News _ _ _ _ => NS)
                rw [pick_from] at NS
                refine mc_zip (by rfl) (by k_asm) NS (Arm.list (a := Dc) (vs := us) (n := kc)) (Arm.list (a := h9.objs.size + 1) (vs := us.drop e) (n := 0)) (FMC.all ⟨.tail _ (.tail _ (.head _)), List.forall_mem_nil _⟩) (FMC.all ⟨.head _, List.forall_mem_nil _⟩) rfl (by rw [List.length_zip, List.length_map, hul]; exact Nat.le_trans (Nat.min_le_left _ _) (le_1000 (hdl ▸ Nat.sub_le _ _) hr10)) (fun g i0 => ?_)
                refine mrest_cols ?turnH ?keepH us (us.drop e) (itR d r) ((itR d r).drop e) [] [] [] _ ?posH hul (by rw [List.length_drop, List.length_drop, hul]) (itR_lt d hr3) (fun x hx => itR_lt d hr3 x (List.mem_of_mem_drop hx)) ?prH Cols.nil (List.forall_mem_nil _) ?finH
                case posH => exact Nat.lt_of_lt_of_le hn q9
                case keepH => exact FMC.all ⟨.tail _ (.tail _ (.head _)), FMC.all ⟨.head _, List.forall_mem_nil _⟩⟩
                case prH =>
                  intro i1 k1 k2 hi hj
                  obtain ⟨p, q, t, u, v, t', u', v', x1, x2, x3, x4, x5⟩ := hC.pair hi hj
                  exact ⟨p, q, t, u, v, t', u', v', x1, x2, inCs x3, inCs x4, x5⟩
                case turnH =>
                  intro k l p q t u v t' u' v' C oC m₂ NN h tk Q' E' hk hl ok hp hq hC' ha hb F N hQ
                  (repeat' ((fail_if_success (first | (with_reducible show wpAny _ _ (call (Value.ref _) _) _ _ _) | (with_reducible show wpAny _ _ (pyIter _) _ _ _) | (with_reducible show UnrPost _ _ _ _ _ _ _ _ _) | (with_reducible show wpAny _ _ (exec (Stmt.Assign _ (PySem.Expr.ListComp _ _ _ _) _) _) _ _ _) | (with_reducible show wpAny _ _ (eval (PySem.Expr.ListComp _ _ _ _) _) _ _ _) | (with_reducible show wpAny _ _ (call (Value.type "zip") _) _ _ _) | (with_reducible show MEnd _ _ _ _ _ _ _ _ _ _ _ _ _) | (with_reducible show wpAny _ _ (exec (Stmt.For _ _ _ _ _) _) _ _ _) | (with_reducible show wpAny _ _ (exec (Stmt.While _ _ _ _) _) _ _ _) | (with_reducible show wpAny _ _ (eval (PySem.Expr.IfExp _ _ _ _) _) _ _ _) | (with_reducible show LCg.CompSrc _ _ _ _ _ _ _ _ _ _ _ _ _ _) | (with_reducible show LCg.CompEnd _ _ _ _ _ _ _ _ _ _ _ _ _ _) | (with_reducible show wpAny _ _ (compareOp .NotEq (Value.ref _) (Value.ref _)) _ _ _))); first | (k_unfold; (try dsimp only)) | (k_end; wrow_close) | ((with_reducible show wpAny _ _ (execs (_ :: _) _) _ _ _); (with_reducible refine wpAny_execs_cons ?_); try dsimp only) | ((with_reducible show wpAny _ _ (execs [] _) _ _ _); refine wpAny_execs_nil ?_; try dsimp only) | ((with_reducible show wpAny _ _ (callWith _ (Value.ref _) _ _ _) _ _ _); (k_here; (k_dflt (refine' callWith_K ?k1 ?k2 ?_; (case k1 => k_asm); (case k2 => k_is); k_whole)))) | ((with_reducible show wpAny _ _ (eval (PySem.Expr.Name _ _) (compEnvC _ _ _ _)) _ _ _); k_dflt (refine LCgL.ld_own (by k_asm) (by k_mem) (by assumption) (by assumption) ?_)) | walk1 | (dsimp only; walk1) | (leave1; walk_say "STEP leave1"; try dsimp only)))
                  refine' (mixT (w := w) k l hk hl p q t u v t' u' v' (.tail _ hp) (.tail _ hq) ok).use (K := K03) ?B6 ?F6 ?X6 ?N6 ?T6 ?eH6 rfl ?hd6 ?hu6 ?_
                  case N6 => k_asm
                  case eH6 => exact ⟨by assumption, by assumption⟩
                  case B6 => k_asm
                  case F6 => k_asm
                  case X6 => k_asm
                  case T6 => k_asm
                  case hd6 => ktr_room
                  case hu6 => ktr_units
                  intro hi9 D9 x y z b1 b2 b3 b4 b5 h9' F9' N9'
                  exact hQ hi9 D9 x y z h9' b1 b2 b3 b4 b5 F9' N9'
                case finH =>
                  intro n' zs cs' hn' hz hf'
                  rw [List.nil_append, leap_row he hr3] at hz
                  intro D7 h7 tk7 q7 F7 N7 ne7 lt7
                  have hDI : @Ne Nat D7 I := Nat.ne_of_gt (lt7 (I, it) (.tail _ (.head _)))
                  have hcI : ∀ p ∈ cs', p.1 ≠ I := fun p hp => Nat.ne_of_gt (hf' p hp (I, it) (.tail _ (.head _)))
                  clear hf' ne7 lt7
                  replace N7 := newsSub (T := (I, it) :: (D7, LCg.lst zs) :: (Dl, W.listOf lv.toArray kl) :: (44, o44) :: (51, o51) :: (ct, W.listOf [Value.ref c0, Value.ref c1, Value.ref c2].toArray 0) :: (Dr, W.listOf refs.toArray kk) :: (s1.heap.objs.size + 1, oK) :: (cs' ++ (CL tkk9 c0 c1 c2 ++ (ext ++ rws)))) N7 csSub
                  have hC7 := Cols.mono (fun p hp => hp) q7 hz
                  have hp7 : 0 < tk7 := Nat.lt_of_lt_of_le (Nat.lt_of_lt_of_le hn q9) (Nat.le_trans hn' q7)
                  dsimp only
                  (repeat' ((fail_if_success (first | (with_reducible show wpAny _ _ (call (Value.ref _) _) _ _ _) | (with_reducible show wpAny _ _ (pyIter _) _ _ _) | (with_reducible show UnrPost _ _ _ _ _ _ _ _ _) | (with_reducible show wpAny _ _ (exec (Stmt.Assign _ (PySem.Expr.ListComp _ _ _ _) _) _) _ _ _) | (with_reducible show wpAny _ _ (eval (PySem.Expr.ListComp _ _ _ _) _) _ _ _) | (with_reducible show wpAny _ _ (call (Value.type "zip") _) _ _ _) | (with_reducible show MEnd _ _ _ _ _ _ _ _ _ _ _ _ _) | (with_reducible show wpAny _ _ (exec (Stmt.For _ _ _ _ _) _) _ _ _) | (with_reducible show wpAny _ _ (exec (Stmt.While _ _ _ _) _) _ _ _) | (with_reducible show wpAny _ _ (eval (PySem.Expr.IfExp _ _ _ _) _) _ _ _) | (with_reducible show wpAny _ _ (compareOp .NotEq (Value.ref _) (Value.ref _)) _ _ _))); first | (k_unfold; (try dsimp only)) | (k_end; wrow_close) | ((with_reducible show wpAny _ _ (execs (_ :: _) _) _ _ _); (with_reducible refine wpAny_execs_cons ?_); try dsimp only) | ((with_reducible show wpAny _ _ (execs [] _) _ _ _); refine wpAny_execs_nil ?_; try dsimp only) | walk1 | (dsimp only; walk1) | (leave1; walk_say "STEP leave1"; try dsimp only)))
                  refine wpAny_grow ?_
                  (k_dflt (refine LCg.ListComp_U (F₀ := by k_asm) (by with_unfolding_all rfl) (by decide) (by rfl) (by decide) (by rfl) ?_))
                  (repeat' ((fail_if_success (first | (with_reducible show wpAny _ _ (call (Value.ref _) _) _ _ _) | (with_reducible show wpAny _ _ (pyIter _) _ _ _) | (with_reducible show UnrPost _ _ _ _ _ _ _ _ _) | (with_reducible show wpAny _ _ (exec (Stmt.Assign _ (PySem.Expr.ListComp _ _ _ _) _) _) _ _ _) | (with_reducible show wpAny _ _ (eval (PySem.Expr.ListComp _ _ _ _) _) _ _ _) | (with_reducible show wpAny _ _ (call (Value.type "zip") _) _ _ _) | (with_reducible show MEnd _ _ _ _ _ _ _ _ _ _ _ _ _) | (with_reducible show wpAny _ _ (exec (Stmt.For _ _ _ _ _) _) _ _ _) | (with_reducible show wpAny _ _ (exec (Stmt.While _ _ _ _) _) _ _ _) | (with_reducible show wpAny _ _ (eval (PySem.Expr.IfExp _ _ _ _) _) _ _ _) | (with_reducible show LCg.CompSrc _ _ _ _ _ _ _ _ _ _ _ _ _ _) | (with_reducible show LCg.CompEnd _ _ _ _ _ _ _ _ _ _ _ _ _ _) | (with_reducible show wpAny _ _ (compareOp .NotEq (Value.ref _) (Value.ref _)) _ _ _))); first | (k_unfold; (try dsimp only)) | (k_end; wrow_close) | ((with_reducible show wpAny _ _ (execs (_ :: _) _) _ _ _); (with_reducible refine wpAny_execs_cons ?_); try dsimp only) | ((with_reducible show wpAny _ _ (execs [] _) _ _ _); refine wpAny_execs_nil ?_; try dsimp only) | ((with_reducible show wpAny _ _ (subscriptTail _ _ (Value.ref _) (Value.int _ _)) _ _ _); refine' my_at ?gN ?gm ?g0 ?g1 ?gx ?_; (case gN => k_asm); (case gm => k_mem); (case g0 => with_reducible assumption); (case g1 => with_reducible assumption); (case gx => with_reducible assumption)) | walk1 | (dsimp only; walk1) | (leave1; walk_say "STEP leave1"; try dsimp only)))
                  have hma' : (a, W.listOf ws.toArray kw) ∈ cs' ++ (CL tkk9 c0 c1 c2 ++ (ext ++ rws)) := List.mem_append_right _ (List.mem_append_right _ (List.mem_append_right _ hma))
                  (refine LCg.CompSrc.ledger (by rfl) (by k_asm) (by k_asm) (by k_mem) (by first | size_fits | exact Nat.le_of_ble_eq_true rfl | (rw [PySem.sizeLine_eq]; omega)) ?_; intro _)
                  refine comp_idx (fun j y => ∃ k, (itR (d + e) r)[j]? = some k ∧ y = .ref (cA c0 c1 c2 k)) ?turnJ ?finJ
                  case turnJ =>
                    intro j v I' oI C oC' D m₂ ys' h tk E' hv hC hx F N off ne
                    obtain ⟨k, tq, hk, rfl⟩ := ints_get hia hv
                    have hget := cA_get (c0 := c0) (c1 := c1) (c2 := c2) (itR_lt (d + e) hr3 k (List.mem_of_getElem? hk))
                    have hkz : k < 3 := itR_lt (d + e) hr3 k (List.mem_of_getElem? hk)
                    have hk0 := Int.natCast_nonneg k
                    have hk63 := k_63 hkz
                    (repeat' ((fail_if_success (first | (with_reducible show wpAny _ _ (call (Value.ref _) _) _ _ _) | (with_reducible show wpAny _ _ (pyIter _) _ _ _) | (with_reducible show UnrPost _ _ _ _ _ _ _ _ _) | (with_reducible show wpAny _ _ (exec (Stmt.Assign _ (PySem.Expr.ListComp _ _ _ _) _) _) _ _ _) | (with_reducible show wpAny _ _ (eval (PySem.Expr.ListComp _ _ _ _) _) _ _ _) | (with_reducible show wpAny _ _ (call (Value.type "zip") _) _ _ _) | (with_reducible show MEnd _ _ _ _ _ _ _ _ _ _ _ _ _) | (with_reducible show wpAny _ _ (exec (Stmt.For _ _ _ _ _) _) _ _ _) | (with_reducible show wpAny _ _ (exec (Stmt.While _ _ _ _) _) _ _ _) | (with_reducible show wpAny _ _ (eval (PySem.Expr.IfExp _ _ _ _) _) _ _ _) | (with_reducible show LCg.CompSrc _ _ _ _ _ _ _ _ _ _ _ _ _ _) | (with_reducible show LCg.CompEnd _ _ _ _ _ _ _ _ _ _ _ _ _ _) | (with_reducible show wpAny _ _ (compareOp .NotEq (Value.ref _) (Value.ref _)) _ _ _))); first | (k_unfold; (try dsimp only)) | (k_end; wrow_close) | ((with_reducible show wpAny _ _ (execs (_ :: _) _) _ _ _); (with_reducible refine wpAny_execs_cons ?_); try dsimp only) | ((with_reducible show wpAny _ _ (execs [] _) _ _ _); refine wpAny_execs_nil ?_; try dsimp only) | ((with_reducible show wpAny _ _ (subscriptTail _ _ (Value.ref _) (Value.int _ _)) _ _ _); refine' my_at ?gN ?gm ?g0 ?g1 ?gx ?_; (case gN => k_asm); (case gm => k_mem); (case g0 => with_reducible assumption); (case g1 => with_reducible assumption); (case gx => with_reducible assumption)) | ((with_reducible show wpAny _ _ (eval (PySem.Expr.Name _ _) (compEnvC _ _ _ _)) _ _ _); k_dflt (refine LCgL.ld_own (by k_asm) (by k_mem) (by assumption) (by assumption) ?_)) | walk1 | (dsimp only; walk1) | (leave1; walk_say "STEP leave1"; try dsimp only)))
                    exact LCg.CompEnd.intro F N _ (fun p hp => hp) off (.inr ⟨_, .tail _ (.tail _ (.tail _ (.tail _ (.tail _ (.tail _ (.tail _ (.tail _ hma'))))))), rfl, _, rfl⟩) ⟨rfl, k, hk, rfl⟩
                  case finJ =>
                    intro us2 hlu2 hyu2
                    intro D8' h8' tk8' F8' N8' off8'
                    have hC9 : Cols (CL tkk9 c0 c1 c2) (tkk9 + 9) us2 (itR (d + e) r) := cols_three hpt (Nat.le_refl _) (hlu2.trans (ints_len hia)) (itR_lt _ hr3) hyu2
                    intro q8'
                    replace q8' : tk7 + 1 + 1 ≤ tk8' := q8'
                    refine ne_cols (K := hd.heap_39 w.params) (led := cs') (led' := CL tkk9 c0 c1 c2) (vs := zs) (us := us2) (Frag.In.keeps (by k_asm) (Fr.keep F8')) (by rfl) N8' (.tail _ (.tail _ (.head _))) (.head _) hC7 hC9 (itR_lt _ hr3) (fun p hp => csIn (List.mem_append_left _ hp)) (fun p hp => csIn (List.mem_append_right _ (List.mem_append_left _ hp))) (by ke_room) ?_
                    replace N8' := newsSub N8' (fun p hp => .tail _ hp)
                    clear off8'
                    walk1
                    (repeat' ((fail_if_success (first | (with_reducible show wpAny _ _ (call (Value.ref _) _) _ _ _) | (with_reducible show wpAny _ _ (pyIter _) _ _ _) | (with_reducible show UnrPost _ _ _ _ _ _ _ _ _) | (with_reducible show wpAny _ _ (exec (Stmt.Assign _ (PySem.Expr.ListComp _ _ _ _) _) _) _ _ _) | (with_reducible show wpAny _ _ (eval (PySem.Expr.ListComp _ _ _ _) _) _ _ _) | (with_reducible show wpAny _ _ (call (Value.type "zip") _) _ _ _) | (with_reducible show MEnd _ _ _ _ _ _ _ _ _ _ _ _ _) | (with_reducible show wpAny _ _ (exec (Stmt.For _ _ _ _ _) _) _ _ _) | (with_reducible show wpAny _ _ (exec (Stmt.While _ _ _ _) _) _ _ _) | (with_reducible show wpAny _ _ (eval (PySem.Expr.IfExp _ _ _ _) _) _ _ _) | (with_reducible show wpAny _ _ (compareOp .NotEq (Value.ref _) (Value.ref _)) _ _ _))); first | (k_unfold; (try dsimp only)) | (k_end; wrow_close) | ((with_reducible show wpAny _ _ (execs (_ :: _) _) _ _ _); (with_reducible refine wpAny_execs_cons ?_); try dsimp only) | ((with_reducible show wpAny _ _ (execs [] _) _ _ _); refine wpAny_execs_nil ?_; try dsimp only) | ((with_reducible show ite _ _ _); refine ite_neg (by decide +kernel) ?_) | walk1 | (dsimp only; walk1) | (leave1; walk_say "STEP leave1"; try dsimp only)))
                    exact hU (by k_asm) N8' ((D7, W.listOf zs.toArray zs.length) :: (Dl, W.listOf lv.toArray kl) :: (44, o44) :: (51, o51) :: (ct, W.listOf [Value.ref c0, Value.ref c1, Value.ref c2].toArray 0) :: (Dr, W.listOf refs.toArray kk) :: (s1.heap.objs.size + 1, oK) :: (cs' ++ (CL tkk9 c0 c1 c2 ++ (ext ++ rws)))) (fun p hp => hp)
                      (FMC.all ⟨hDI, FMC.all ⟨Nat.ne_of_lt (hI _ (.tail _ (.head _))), FMC.all ⟨Nat.ne_of_lt (hI _ (.tail _ (.tail _ (.head _)))), FMC.all ⟨Nat.ne_of_lt (hI _ (.tail _ (.tail _ (.tail _ (.head _))))), FMC.all ⟨Nat.ne_of_lt (hI _ (.tail _ (.tail _ (.tail _ (.tail _ (.head _)))))), FMC.all ⟨Nat.ne_of_lt (hI _ (.tail _ (.tail _ (.tail _ (.tail _ (.tail _ (.head _))))))), FMC.all ⟨Nat.ne_of_lt (hI _ (.tail _ (.tail _ (.tail _ (.tail _ (.tail _ (.tail _ (.head _)))))))), fun q hq => (List.mem_append.mp hq).elim (fun h => hcI q h) (fun h => Nat.ne_of_lt (hI q (.tail _ (.tail _ (.tail _ (.tail _ (.tail _ (.tail _ (.tail _ (List.mem_append_right _ (List.mem_append_right _ h)))))))))))⟩⟩⟩⟩⟩⟩⟩)
                      (.tail _ (.head _))
                      (fun _ kk9 => kk9 ls' (d + e) D7 zs zs.length cs' tc _ hls' h139' hsum' (Cols.mono (fun p hp => hp) (Nat.le_trans (Nat.le_add_right tk7 2) q8') hC7) (Nat.lt_of_lt_of_le (Nat.succ_pos (tk7 + 1)) q8') hcI hDI rfl rfl rfl rfl rfl)
              case doneL =>
                intro n m nw hP
                apply hP
                clear hP
                intro ls d Dc us kc cs tc td hls h139 hsum hC hn hcs hDc z1 z2 z3 z4 z5 h9 tk9 q9 F9 N9
                have hdi : d = i := leap_done hls hsum
                subst hdi
                clear hsum h139 hls hn
                rw [mx5 z1 z2 z3 z4 z5] at F9
                replace N9 := newsSub (T := (44, o44) :: (51, o51) :: (Dr, W.listOf refs.toArray kk) :: (ext ++ rws)) N9 endSub
                have hx51 : ∀ q ∈ ext, @LT.lt Nat _ 51 q.1 := fun q hq => (hext q hq).2
                have hx44 : ∀ q ∈ ext, q.1 ≠ 44 := fun q hq => Nat.ne_of_gt (Nat.lt_trans (by decide : 44 < 51) (hext q hq).2)
                clear hcs hDc hC hI m51 m44 hext
                have hD5' : (D5, W.listOf ys.toArray ys.length) ∈ ext ++ rws := List.mem_append_right _ hD5
                dsimp only
                (repeat' ((fail_if_success (first | (with_reducible show wpAny _ _ (call (Value.ref _) _) _ _ _) | (with_reducible show wpAny _ _ (pyIter _) _ _ _) | (with_reducible show UnrPost _ _ _ _ _ _ _ _ _) | (with_reducible show wpAny _ _ (exec (Stmt.Assign _ (PySem.Expr.ListComp _ _ _ _) _) _) _ _ _) | (with_reducible show wpAny _ _ (eval (PySem.Expr.ListComp _ _ _ _) _) _ _ _) | (with_reducible show wpAny _ _ (call (Value.type "zip") _) _ _ _) | (with_reducible show MEnd _ _ _ _ _ _ _ _ _ _ _ _ _) | (with_reducible show wpAny _ _ (exec (Stmt.For _ _ _ _ _) _) _ _ _) | (with_reducible show wpAny _ _ (exec (Stmt.While _ _ _ _) _) _ _ _) | (with_reducible show wpAny _ _ (eval (PySem.Expr.IfExp _ _ _ _) _) _ _ _) | (with_reducible show wpAny _ _ (compareOp .NotEq (Value.ref _) (Value.ref _)) _ _ _))); first | (k_unfold; (try dsimp only)) | (k_end; wrow_close) | ((with_reducible show wpAny _ _ (execs (_ :: _) _) _ _ _); (with_reducible refine wpAny_execs_cons ?_); try dsimp only) | ((with_reducible show wpAny _ _ (execs [] _) _ _ _); refine wpAny_execs_nil ?_; try dsimp only) | walk1 | (dsimp only; walk1) | (leave1; walk_say "STEP leave1"; try dsimp only)))
                (k_dflt (refine mc_List (ct := none) (by k_asm) (by with_unfolding_all rfl) (by decide) (by rfl) (by decide) (by rfl) (by rfl) (by decide) ?_))
                (repeat' ((fail_if_success (first | (with_reducible show wpAny _ _ (call (Value.ref _) _) _ _ _) | (with_reducible show wpAny _ _ (pyIter _) _ _ _) | (with_reducible show UnrPost _ _ _ _ _ _ _ _ _) | (with_reducible show wpAny _ _ (exec (Stmt.Assign _ (PySem.Expr.ListComp _ _ _ _) _) _) _ _ _) | (with_reducible show wpAny _ _ (eval (PySem.Expr.ListComp _ _ _ _) _) _ _ _) | (with_reducible show wpAny _ _ (call (Value.type "zip") _) _ _ _) | (with_reducible show MEnd _ _ _ _ _ _ _ _ _ _ _ _ _) | (with_reducible show wpAny _ _ (exec (Stmt.For _ _ _ _ _) _) _ _ _) | (with_reducible show wpAny _ _ (exec (Stmt.While _ _ _ _) _) _ _ _) | (with_reducible show wpAny _ _ (eval (PySem.Expr.IfExp _ _ _ _) _) _ _ _) | (with_reducible show wpAny _ _ (compareOp .NotEq (Value.ref _) (Value.ref _)) _ _ _))); first | (k_unfold; (try dsimp only)) | (k_end; wrow_close) | ((with_reducible show wpAny _ _ (execs (_ :: _) _) _ _ _); (with_reducible refine wpAny_execs_cons ?_); try dsimp only) | ((with_reducible show wpAny _ _ (execs [] _) _ _ _); refine wpAny_execs_nil ?_; try dsimp only) | ((with_reducible show wpAny _ _ (callWith _ (Value.ref _) _ _ _) _ _ _); (k_here; (k_dflt (refine' callWith_K ?k1 ?k2 ?_; (case k1 => k_asm); (case k2 => k_is); k_whole)))) | walk1 | (dsimp only; walk1) | (leave1; walk_say "STEP leave1"; try dsimp only)))
                rw [pow_cast]
                have hd10 : d < 10 := hi10
                refine' (i2dW (w := w) (T0 := ext ++ []) (news := (51, o51) :: (Dr, W.listOf refs.toArray kk) :: (ext ++ rws)) (257 ^ d) 8 (d + 1) (by decide) (pow_bits d hd10) (lt_200 hd10) (pow_80 hd10) (by decide) _ _ (FMC.all ⟨(show (51 : Nat) ≠ 44 by decide), FMC.all ⟨Nat.ne_of_gt u4, fun q hq => (List.mem_append.mp hq).elim (hx44 q) (fun h => (hne q h).2.2.2.1)⟩⟩) _ h44 (fun p hp => .tail _ (.tail _ (List.mem_append_left _ (by rwa [List.append_nil] at hp))))).use (K := K03) ?B5 ?F5 ?X5 ?N5 ?T5 ?eH5 rfl ?hd5 ?hu5 ?_
                case N5 => k_asm
                case eH5 => exact ⟨by assumption, by assumption⟩
                case B5 => k_asm
                case F5 => k_asm
                case X5 => k_asm
                case T5 => k_asm
                case hd5 => ktr_room
                case hu5 => ktr_units
                intro Dd vsd o44' ext' h44' hvd hltd hext' hd9 tkd Fd Nd
                rw [digs_chs d hd10] at hvd
                replace Nd := newsSub (T := (Dd, W.listOf vsd.toArray 0) :: (44, o44') :: (51, o51) :: (Dr, W.listOf refs.toArray kk) :: ((ext' ++ ext) ++ rws)) Nd dgSub
                have hy51 : ∀ q ∈ ext' ++ ext, @LT.lt Nat _ 51 q.1 := fun q hq => (List.mem_append.mp hq).elim (fun h => (hext' q h).1 (51, o51) (.head _)) (hx51 q)
                clear hltd hext' hx51 hx44
                have hD5'' : (D5, W.listOf ys.toArray ys.length) ∈ (ext' ++ ext) ++ rws := List.mem_append_right _ hD5
                (repeat' ((fail_if_success (first | (with_reducible show wpAny _ _ (call (Value.ref _) _) _ _ _) | (with_reducible show wpAny _ _ (pyIter _) _ _ _) | (with_reducible show UnrPost _ _ _ _ _ _ _ _ _) | (with_reducible show wpAny _ _ (exec (Stmt.Assign _ (PySem.Expr.ListComp _ _ _ _) _) _) _ _ _) | (with_reducible show wpAny _ _ (eval (PySem.Expr.ListComp _ _ _ _) _) _ _ _) | (with_reducible show wpAny _ _ (call (Value.type "zip") _) _ _ _) | (with_reducible show MEnd _ _ _ _ _ _ _ _ _ _ _ _ _) | (with_reducible show wpAny _ _ (exec (Stmt.For _ _ _ _ _) _) _ _ _) | (with_reducible show wpAny _ _ (exec (Stmt.While _ _ _ _) _) _ _ _) | (with_reducible show wpAny _ _ (eval (PySem.Expr.IfExp _ _ _ _) _) _ _ _) | (with_reducible show wpAny _ _ (compareOp .NotEq (Value.ref _) (Value.ref _)) _ _ _))); first | (k_unfold; (try dsimp only)) | (k_end; wrow_close) | ((with_reducible show wpAny _ _ (execs (_ :: _) _) _ _ _); (with_reducible refine wpAny_execs_cons ?_); try dsimp only) | ((with_reducible show wpAny _ _ (execs [] _) _ _ _); refine wpAny_execs_nil ?_; try dsimp only) | walk1 | (dsimp only; walk1) | (leave1; walk_say "STEP leave1"; try dsimp only)))
                refine mc_zip (by rfl) (by k_asm) (by k_asm) (Arm.list (a := Dd) (vs := vsd) (n := 0)) (Arm.list (a := D5) (vs := ys) (n := ys.length)) (FMC.all ⟨.head _, List.forall_mem_nil _⟩) (FMC.all ⟨.tail _ (.tail _ (.tail _ (.tail _ hD5''))), List.forall_mem_nil _⟩) rfl (by rw [List.length_zip, List.length_map, List.length_map, ints_len hr]; exact Nat.le_trans (Nat.min_le_right _ _) (le_1000 (Nat.le_refl _) hr10)) (fun g i0 => ?_)
                refine mrest_intsP (fun x => x.natAbs < 2 ^ 64) (fun x y => x * y) ?turnM _ _ _ _ [] [] _ (chs_small d hd10) hvd hr .nil ?finM
                case turnM =>
                  intro x y t u its C oC D m₂ ys h tk E' hx hi hC ha hb F N off offI offC ne
                  (repeat' ((fail_if_success (first | (with_reducible show wpAny _ _ (call (Value.ref _) _) _ _ _) | (with_reducible show wpAny _ _ (pyIter _) _ _ _) | (with_reducible show UnrPost _ _ _ _ _ _ _ _ _) | (with_reducible show wpAny _ _ (exec (Stmt.Assign _ (PySem.Expr.ListComp _ _ _ _) _) _) _ _ _) | (with_reducible show wpAny _ _ (eval (PySem.Expr.ListComp _ _ _ _) _) _ _ _) | (with_reducible show wpAny _ _ (call (Value.type "zip") _) _ _ _) | (with_reducible show MEnd _ _ _ _ _ _ _ _ _ _ _ _ _) | (with_reducible show wpAny _ _ (exec (Stmt.For _ _ _ _ _) _) _ _ _) | (with_reducible show wpAny _ _ (exec (Stmt.While _ _ _ _) _) _ _ _) | (with_reducible show wpAny _ _ (eval (PySem.Expr.IfExp _ _ _ _) _) _ _ _) | (with_reducible show wpAny _ _ (compareOp .NotEq (Value.ref _) (Value.ref _)) _ _ _))); first | (k_unfold; (try dsimp only)) | (k_end; wrow_close) | ((with_reducible show wpAny _ _ (execs (_ :: _) _) _ _ _); (with_reducible refine wpAny_execs_cons ?_); try dsimp only) | ((with_reducible show wpAny _ _ (execs [] _) _ _ _); refine wpAny_execs_nil ?_; try dsimp only) | ((with_reducible show wpAny _ _ (binaryOp .Mult (Value.int _ _) (Value.int _ _)) _ _ _); refine mul_int ?_ (mulok (by with_reducible assumption))) | ((with_reducible show wpAny _ _ (eval (PySem.Expr.Name _ _) (compEnvC _ _ _ _)) _ _ _); k_dflt (refine LCgL.ld_own (by k_asm) (by k_mem) (by assumption) (by assumption) ?_)) | walk1 | (dsimp only; walk1) | (leave1; walk_say "STEP leave1"; try dsimp only)))
                  exact MEnd.intro F N _ (fun p hp => hp) off offI (FMC.all ⟨.head _, FMC.all ⟨.tail _ (.tail _ (.tail _ (.tail _ hD5''))), List.forall_mem_nil _⟩⟩) ⟨rfl, _, rfl⟩
                case finM =>
                  intro n' zs hz
                  rw [List.nil_append] at hz
                  intro Dm hm9 tkm qm Fm Nm nem ltm
                  replace Nm := newsSub (T := (Dm, W.listOf zs.toArray zs.length) :: (44, o44') :: (51, o51) :: (Dr, W.listOf refs.toArray kk) :: ((ext' ++ ext) ++ rws)) Nm (FMC.all ⟨.head _, fun p hp => .tail _ (.tail _ hp)⟩)
                  clear nem ltm
                  have hS := zip_dot (chs d) (castL r)
                  (repeat' ((fail_if_success (with_reducible show wpAny _ _ (compareOp .Eq (Value.int _ _) (Value.int _ _)) _ _ _)); first | (k_unfold; (try dsimp only)) | ((with_reducible show wpAny _ _ (execs (_ :: _) _) _ _ _); (with_reducible refine wpAny_execs_cons ?_); try dsimp only) | ((with_reducible show wpAny _ _ (execs [] _) _ _ _); refine wpAny_execs_nil ?_; try dsimp only) | ((with_reducible show wpAny _ _ (call (Value.builtin "sum") [(Value.ref _)]) _ _ _); (refine' my_sumS ?hh ?F ?N ?gm ?gi ?gs ?_; (case hh => rfl); (case F => k_asm); (case N => k_asm); (case gm => k_mem); (case gi => with_reducible assumption); (case gs => with_reducible assumption)); intro _ _ _ _ _) | walk1 | (dsimp only; walk1)))
                  walk1
                  rw [show (((d : Nat) : Int) == ((d : Nat) : Int)) = true from beq_self_eq_true _]
                  walk1
                  (repeat' ((fail_if_success (first | (with_reducible show wpAny _ _ (call (Value.ref _) _) _ _ _) | (with_reducible show wpAny _ _ (pyIter _) _ _ _) | (with_reducible show UnrPost _ _ _ _ _ _ _ _ _) | (with_reducible show wpAny _ _ (exec (Stmt.Assign _ (PySem.Expr.ListComp _ _ _ _) _) _) _ _ _) | (with_reducible show wpAny _ _ (eval (PySem.Expr.ListComp _ _ _ _) _) _ _ _) | (with_reducible show wpAny _ _ (call (Value.type "zip") _) _ _ _) | (with_reducible show MEnd _ _ _ _ _ _ _ _ _ _ _ _ _) | (with_reducible show wpAny _ _ (exec (Stmt.For _ _ _ _ _) _) _ _ _) | (with_reducible show wpAny _ _ (exec (Stmt.While _ _ _ _) _) _ _ _) | (with_reducible show wpAny _ _ (eval (PySem.Expr.IfExp _ _ _ _) _) _ _ _) | (with_reducible show wpAny _ _ (compareOp .NotEq (Value.ref _) (Value.ref _)) _ _ _))); first | (k_unfold; (try dsimp only)) | (k_end; wrow_close) | ((with_reducible show wpAny _ _ (execs (_ :: _) _) _ _ _); (with_reducible refine wpAny_execs_cons ?_); try dsimp only) | ((with_reducible show wpAny _ _ (execs [] _) _ _ _); refine wpAny_execs_nil ?_; try dsimp only) | ((with_reducible show ite _ _ _); refine ite_pos (by decide +kernel) ?_) | ((with_reducible show wpAny _ _ (callWith _ (Value.ref _) _ _ _) _ _ _); (k_here; (k_dflt (refine' callWith_K ?k1 ?k2 ?_; (case k1 => k_asm); (case k2 => k_is); k_whole)))) | walk1 | (dsimp only; walk1) | (leave1; walk_say "STEP leave1"; try dsimp only)))
                  refine step_frameW (by k_asm) (by k_asm) (fun G => ∀ t, G (.int (sgn d (dotI (chs d) (castL r))) t)) (fun Q' hQ' => ?_) ?_
                  · rcases Nat.mod_two_eq_zero_or_one d with hpar | hpar
                    · have hfm := par_fmod (d := d)
                      rw [hpar] at hfm
                      have hsg : sgn d (dotI (chs d) (castL r)) = dotI (chs d) (castL r) := if_neg (by rw [hpar]; decide)
                      rw [hsg] at hQ'
                      walk1
                      (repeat' ((fail_if_success (first | (with_reducible show wpAny _ _ (call (Value.ref _) _) _ _ _) | (with_reducible show wpAny _ _ (pyIter _) _ _ _) | (with_reducible show UnrPost _ _ _ _ _ _ _ _ _) | (with_reducible show wpAny _ _ (exec (Stmt.Assign _ (PySem.Expr.ListComp _ _ _ _) _) _) _ _ _) | (with_reducible show wpAny _ _ (eval (PySem.Expr.ListComp _ _ _ _) _) _ _ _) | (with_reducible show wpAny _ _ (call (Value.type "zip") _) _ _ _) | (with_reducible show MEnd _ _ _ _ _ _ _ _ _ _ _ _ _) | (with_reducible show wpAny _ _ (exec (Stmt.For _ _ _ _ _) _) _ _ _) | (with_reducible show wpAny _ _ (exec (Stmt.While _ _ _ _) _) _ _ _) | (with_reducible show wpAny _ _ (eval (PySem.Expr.IfExp _ _ _ _) _) _ _ _) | (with_reducible show wpAny _ _ (compareOp .NotEq (Value.ref _) (Value.ref _)) _ _ _))); first | (k_unfold; (try dsimp only)) | (k_end; wrow_close) | ((with_reducible show wpAny _ _ (execs (_ :: _) _) _ _ _); (with_reducible refine wpAny_execs_cons ?_); try dsimp only) | ((with_reducible show wpAny _ _ (execs [] _) _ _ _); refine wpAny_execs_nil ?_; try dsimp only) | ((with_reducible show ite _ _ _); refine ite_neg (by first | omega | (simp only [beq_iff_eq, bne_iff_ne, decide_eq_true_eq, Int.not_lt, Int.not_le]; omega)) ?_) | walk1 | (dsimp only; walk1) | (leave1; walk_say "STEP leave1"; try dsimp only)))
                      exact hQ' _ _ _ (by k_asm) (by k_asm)
                    · have hfm := par_fmod (d := d)
                      rw [hpar] at hfm
                      have hsg : sgn d (dotI (chs d) (castL r)) = - dotI (chs d) (castL r) := if_pos hpar
                      rw [hsg] at hQ'
                      walk1
                      (repeat' ((fail_if_success (first | (with_reducible show wpAny _ _ (call (Value.ref _) _) _ _ _) | (with_reducible show wpAny _ _ (pyIter _) _ _ _) | (with_reducible show UnrPost _ _ _ _ _ _ _ _ _) | (with_reducible show wpAny _ _ (exec (Stmt.Assign _ (PySem.Expr.ListComp _ _ _ _) _) _) _ _ _) | (with_reducible show wpAny _ _ (eval (PySem.Expr.ListComp _ _ _ _) _) _ _ _) | (with_reducible show wpAny _ _ (call (Value.type "zip") _) _ _ _) | (with_reducible show MEnd _ _ _ _ _ _ _ _ _ _ _ _ _) | (with_reducible show wpAny _ _ (exec (Stmt.For _ _ _ _ _) _) _ _ _) | (with_reducible show wpAny _ _ (exec (Stmt.While _ _ _ _) _) _ _ _) | (with_reducible show wpAny _ _ (eval (PySem.Expr.IfExp _ _ _ _) _) _ _ _) | (with_reducible show wpAny _ _ (compareOp .NotEq (Value.ref _) (Value.ref _)) _ _ _))); first | (k_unfold; (try dsimp only)) | (k_end; wrow_close) | ((with_reducible show wpAny _ _ (execs (_ :: _) _) _ _ _); (with_reducible refine wpAny_execs_cons ?_); try dsimp only) | ((with_reducible show wpAny _ _ (execs [] _) _ _ _); refine wpAny_execs_nil ?_; try dsimp only) | ((with_reducible show ite _ _ _); refine ite_pos (by first | omega | (simp only [beq_iff_eq, bne_iff_ne, decide_eq_true_eq, Int.not_lt, Int.not_le]; omega)) ?_) | walk1 | (dsimp only; walk1) | (leave1; walk_say "STEP leave1"; try dsimp only)))
                      exact hQ' _ _ _ (by k_asm) (by k_asm)
                  intro tx hx9 tkx Fx Nx
                  (repeat' ((fail_if_success (first | (with_reducible show wpAny _ _ (call (Value.ref _) _) _ _ _) | (with_reducible show wpAny _ _ (pyIter _) _ _ _) | (with_reducible show UnrPost _ _ _ _ _ _ _ _ _) | (with_reducible show wpAny _ _ (exec (Stmt.Assign _ (PySem.Expr.ListComp _ _ _ _) _) _) _ _ _) | (with_reducible show wpAny _ _ (eval (PySem.Expr.ListComp _ _ _ _) _) _ _ _) | (with_reducible show wpAny _ _ (call (Value.type "zip") _) _ _ _) | (with_reducible show MEnd _ _ _ _ _ _ _ _ _ _ _ _ _) | (with_reducible show wpAny _ _ (exec (Stmt.For _ _ _ _ _) _) _ _ _) | (with_reducible show wpAny _ _ (exec (Stmt.While _ _ _ _) _) _ _ _) | (with_reducible show wpAny _ _ (eval (PySem.Expr.IfExp _ _ _ _) _) _ _ _) | (with_reducible show wpAny _ _ (compareOp .NotEq (Value.ref _) (Value.ref _)) _ _ _))); first | (k_unfold; (try dsimp only)) | (k_end; wrow_close) | ((with_reducible show wpAny _ _ (execs (_ :: _) _) _ _ _); (with_reducible refine wpAny_execs_cons ?_); try dsimp only) | ((with_reducible show wpAny _ _ (execs [] _) _ _ _); refine wpAny_execs_nil ?_; try dsimp only) | walk1 | (dsimp only; walk1) | (leave1; walk_say "STEP leave1"; try dsimp only)))
                  obtain ⟨hd0, ht0, e0, ef0⟩ := sgn_head hr3 (show d < r.length by rw [hc]; exact Nat.lt_succ_self d)
                  obtain ⟨a, ws, kw, hra, hma, hia⟩ := RowsAre.get hrw d (itR d r) (rowsL_get _ _ _ (Nat.lt_succ_self d))
                  have hlast : refs[refs.length - 1]? = some (.ref a) := by rw [hrl]; exact hra
                  obtain ⟨th0, hth0⟩ := ints_head hia e0
                  have hma2 : (a, W.listOf ws.toArray kw) ∈ (ext' ++ ext) ++ rws := List.mem_append_right _ hma
                  have ht44 : Tab30 o44' (ext' ++ ext) := TabIs.mono h44' (fun p hp => by rwa [List.append_nil] at hp)
                  have ht51 : Tab37 o51 (ext' ++ ext) := TabIs.mono h51 (fun p hp => List.mem_append_right _ (by rwa [List.append_nil] at hp))
                  refine' (idm1W (w := w) (T0 := ext' ++ ext) (news := (Dr, W.listOf refs.toArray kk) :: ((ext' ++ ext) ++ rws)) (sgn d (dotI (chs d) (castL r))) 3 (sgn_small hd10 hr3) (by decide) (by decide) 3 rfl _ _ (FMC.all ⟨Nat.ne_of_gt u4, fun q hq => (List.mem_append.mp hq).elim (fun h => Nat.ne_of_gt (Nat.lt_trans (by decide : 44 < 51) (hy51 q h))) (fun h => (hne q h).2.2.2.1)⟩) (FMC.all ⟨Nat.ne_of_gt u3, fun q hq => (List.mem_append.mp hq).elim (fun h => Nat.ne_of_gt (hy51 q h)) (fun h => (hne q h).2.2.1)⟩) _ _ ht44 ht51 (fun p hp => .tail _ (List.mem_append_left _ hp))).use (K := K03) ?B9 ?F9 ?X9 ?N9 ?T9 ?eH9 rfl ?hd9 ?hu9 ?_
                  case N9 => exact newsSub (by k_asm) (fun p hp => .tail _ hp)
                  case eH9 => exact ⟨by assumption, by assumption⟩
                  case B9 => k_asm
                  case F9 => k_asm
                  case X9 => k_asm
                  case T9 => k_asm
                  case hd9 => ktr_room
                  case hu9 => ktr_units
                  intro Dz v1 v2 oz44 oz51 extz hz44 hz51 _ _ _ hz9 tkz Fz Nz
                  rw [ef0] at Nz
                  have hDr2 : (Dr, W.listOf refs.toArray kk) ∈ extz ++ (Dr, W.listOf refs.toArray kk) :: ((ext' ++ ext) ++ rws) := List.mem_append_right _ (.head _)
                  have hma3 : (a, W.listOf ws.toArray kw) ∈ extz ++ (Dr, W.listOf refs.toArray kk) :: ((ext' ++ ext) ++ rws) := List.mem_append_right _ (.tail _ hma2)
                  dsimp only
                  (repeat' ((fail_if_success (first | (with_reducible show wpAny _ _ (compareOp .Eq (Value.int _ _) (Value.int _ _)) _ _ _) | (with_reducible show wpAny _ _ (subscriptTail _ _ (Value.ref _) (Value.int _ _)) _ _ _))); first | (k_unfold; (try dsimp only)) | ((with_reducible show wpAny _ _ (execs (_ :: _) _) _ _ _); (with_reducible refine wpAny_execs_cons ?_); try dsimp only) | ((with_reducible show wpAny _ _ (execs [] _) _ _ _); refine wpAny_execs_nil ?_; try dsimp only) | walk1 | (dsimp only; walk1)))
                  refine item_tupleT (News.isTup Nz (.head _)) (by decide) (by decide) (seqIx1 _) rfl ?_
                  (repeat' ((fail_if_success (first | (with_reducible show wpAny _ _ (compareOp .Eq (Value.int _ _) (Value.int _ _)) _ _ _) | (with_reducible show wpAny _ _ (subscriptTail _ _ (Value.ref _) (Value.int _ _)) _ _ _))); first | (k_unfold; (try dsimp only)) | ((with_reducible show wpAny _ _ (execs (_ :: _) _) _ _ _); (with_reducible refine wpAny_execs_cons ?_); try dsimp only) | ((with_reducible show wpAny _ _ (execs [] _) _ _ _); refine wpAny_execs_nil ?_; try dsimp only) | walk1 | (dsimp only; walk1)))
                  refine my_last Nz (.tail _ (.tail _ (.tail _ hDr2))) hlast hpos ?_
                  (repeat' ((fail_if_success (first | (with_reducible show wpAny _ _ (compareOp .Eq (Value.int _ _) (Value.int _ _)) _ _ _) | (with_reducible show wpAny _ _ (subscriptTail _ _ (Value.ref _) (Value.int _ _)) _ _ _))); first | (k_unfold; (try dsimp only)) | ((with_reducible show wpAny _ _ (execs (_ :: _) _) _ _ _); (with_reducible refine wpAny_execs_cons ?_); try dsimp only) | ((with_reducible show wpAny _ _ (execs [] _) _ _ _); refine wpAny_execs_nil ?_; try dsimp only) | walk1 | (dsimp only; walk1)))
                  refine kba_turn (value' := PySem.Expr.Name (PySem.Str.ofString "_") ⟨0, 0, 0, 0⟩) (fun _ => rfl) ?_
                  refine my_at Nz (.tail _ (.tail _ (.tail _ hma3))) (by decide) (by decide) hth0 ?_
                  (repeat' ((fail_if_success (first | (with_reducible show wpAny _ _ (compareOp .Eq (Value.int _ _) (Value.int _ _)) _ _ _) | (with_reducible show wpAny _ _ (subscriptTail _ _ (Value.ref _) (Value.int _ _)) _ _ _))); first | (k_unfold; (try dsimp only)) | ((with_reducible show wpAny _ _ (execs (_ :: _) _) _ _ _); (with_reducible refine wpAny_execs_cons ?_); try dsimp only) | ((with_reducible show wpAny _ _ (execs [] _) _ _ _); refine wpAny_execs_nil ?_; try dsimp only) | walk1 | (dsimp only; walk1)))
                  walk1
                  rw [show (((hd0 : Nat) : Int) == ((hd0 : Nat) : Int)) = true from beq_self_eq_true _]
                  exact ⟨goodW_bool Fz (by assumption) (raisesW_false (by wrow_none_raised)) (by wrow_post), tab_grown hz51 Nz (.tail _ (.tail _ (.head _))), tab_grown hz44 Nz (.tail _ (.head _)), True.intro⟩
end Mine
end
theorem PySem.Challenge.cw_pg0168_03_holds : PySem.Challenge.rw_pg0168_03.Holds := by
  exact Mine.main
